/- Parts of a text, padding, hexadecimal numbers: the reference's functions. -/
/- Wireless interfaces: the reference's check and its printing. -/
/- Wireless interfaces: the reference's reading. -/
/- Numbers of base 16, and of any base by their writing; texts split: the program's functions. -/
import Derived.Test.YtcjebcenbimcgaaGreatDoorEas
import Derived.Test.YtcjebcenbimcgaaGreatDoorEar
import Derived.Test.YtcjebcenbimcgaaGreatDoorEaj
import Derived.Test.YtcjebcenbimcgaaGreatDoorEag
set_option linter.unusedSimpArgs false
set_option linter.unusedVariables false
namespace Go.Ev
open Go.Proofs

/-! ### Parts -/

def S1125 (F : List SV → Option AV) : Prop := ∀ (s : List UInt8) (b : UInt8), s.length < 1000000000000 → F [.str s, .int .u8 (b.toNat : Int)] = some (.sv (.sl (strs (partG b.toNat [] s))))

def S46 (F : List SV → Option AV) : Prop := ∀ (s : List UInt8) (n : Nat), n < 1000000 → s.length < 100000000000 → F [.str s, .int .i64 (n : Int)] = some (.sv (.str (rightS s n)))

theorem loop46r (E : Env) (cf : CallF) (m : Nat) (n : Nat) (hn : n < 1000000) :
    ∀ (d : Nat) (s : List UInt8) (k : Nat), n - s.length ≤ d → s.length < 1000000000000 → d < k →
      rounds (evC E cf m b46_0) k { tm := [.sv (.str s), .sv (.int .i64 n)] ++ List.replicate 10 (.sv .undef), lz := none, bx := [], df := [] } =
        some (.exit 0, { tm := [.sv (.str (rightS s n))] ++ List.replicate 11 (.sv .undef), lz := none, bx := [], df := [] }) := by
  intro d
  induction d with
  | zero =>
    intro s k hd hs hk
    obtain ⟨k, rfl⟩ : ∃ k', k = k' + 1 := ⟨k - 1, by omega⟩
    have hlt : ¬ (s.length < n) := by omega
    refine rounds_out ?_ (by simp)
    rw [rightS_done hlt]
    have hltI : ¬ (s.length : Int) < (n : Int) := by omega
    simp [b46_0, List.replicate, hlt, hltI]
  | succ d ih =>
    intro s k hd hs hk
    obtain ⟨k, rfl⟩ : ∃ k', k = k' + 1 := ⟨k - 1, by omega⟩
    by_cases hlt : s.length < n
    · have he := ih (32 :: s) k (by simp; omega) (by simp; omega) (by omega)
      rw [rightS_step hlt] at he
      rw [← he]
      refine rounds_step ?_
      have hltI : (s.length : Int) < (n : Int) := by omega
      have hb : 1 + s.length < 4611686018427387904 := by omega
      simp [b46_0, List.replicate, hlt, hltI, hb]
    · refine rounds_out ?_ (by simp)
      rw [rightS_done hlt]
      have hltI : ¬ (s.length : Int) < (n : Int) := by omega
      simp [b46_0, List.replicate, hlt, hltI]

theorem ev46 (E : Env) (h : E.code 59 = some c46) : S46 (autoF E 59) := by
  intro s n hn hs
  have hl := loop46r E (evF E (n + 1)) (n + 1) n hn n s (n + 1) (by omega) (by omega) (by omega)
  refine autoF_sv (n := n + 1) ?_ rfl
  unfold evP
  simp only [h]
  simp only [List.replicate, List.cons_append, List.nil_append] at hl
  simp [c46, List.replicate, hl]

/-! ### Hexadecimal digits -/

noncomputable def F97h : List SV → Option AV
  | [.int .u64 n, .int .u64 b] => onlyIf (0 ≤ n ∧ n < 18446744073709551616 ∧ b = 16) (some (.sv (.str (hexS n.toNat))))
  | _ => none

theorem F97h_eq (n : Nat) (h : n < 18446744073709551616) : F97h [.int .u64 (n : Int), .int .u64 16] = some (.sv (.str (hexS n))) := by
  show onlyIf _ (some (AV.sv (.str (hexS (n : Int).toNat)))) = _
  rw [onlyIf_pos ⟨by omega, by omega, rfl⟩]; simp

theorem ev97h (E : Env) (h : E.code 126 = some c97) (n k : Nat) (hk : k < 18446744073709551616) :
    evP (E.add 126 (fun us => if size97 us < k then F97h us else none)) n 126 [.int .u64 k, .int .u64 16] = some (.sv (.str (hexS k))) := by
  unfold evP
  have hc : (E.add 126 (fun us => if size97 us < k then F97h us else none)).code 126 = some c97 := h
  simp only [hc]
  have hm : Int.tmod (k : Int) 16 = ((k % 16 : Nat) : Int) := rfl
  have hq : IntKind.u64.wrap ((k : Int) / 16) = ((k / 16 : Nat) : Int) := by rw [IntKind.wrap_u64]; omega
  have hr16 : ∀ r, r < 16 → r = 0 ∨ r = 1 ∨ r = 2 ∨ r = 3 ∨ r = 4 ∨ r = 5 ∨ r = 6 ∨ r = 7 ∨ r = 8 ∨ r = 9 ∨ r = 10 ∨ r = 11 ∨ r = 12 ∨ r = 13 ∨ r = 14 ∨ r = 15 := by intro r hr; omega
  by_cases hlt : k < 16
  · rw [hexS_small hlt]
    rcases hr16 k hlt with rfl | rfl | rfl | rfl | rfl | rfl | rfl | rfl | rfl | rfl | rfl | rfl | rfl | rfl | rfl | rfl <;> simp [c97, svBytes, List.replicate, hexC]
  · have e1 : ¬ (k : Int) < 16 := by omega
    rw [hexS_step hlt]
    have hlen := hexS_len16 (n := k / 16) (by omega)
    have hs : k / 16 < k := by omega
    have hb : ((k / 16 : Nat) : Int) < 18446744073709551616 := by omega
    have hb2 : (hexS (k / 16)).length + 1 < 4611686018427387904 := by omega
    rcases hr16 (k % 16) (by omega) with hr | hr | hr | hr | hr | hr | hr | hr | hr | hr | hr | hr | hr | hr | hr | hr
    · have hm2 : (k : Int) % 16 = 0 := by omega
      simp [c97, svBytes, List.replicate, hm, hm2, hr, e1, hq, F97h, size97, hs, hb, hb2, hexC, -Int.natCast_ediv]
    · have hm2 : (k : Int) % 16 = 1 := by omega
      simp [c97, svBytes, List.replicate, hm, hm2, hr, e1, hq, F97h, size97, hs, hb, hb2, hexC, -Int.natCast_ediv]
    · have hm2 : (k : Int) % 16 = 2 := by omega
      simp [c97, svBytes, List.replicate, hm, hm2, hr, e1, hq, F97h, size97, hs, hb, hb2, hexC, -Int.natCast_ediv]
    · have hm2 : (k : Int) % 16 = 3 := by omega
      simp [c97, svBytes, List.replicate, hm, hm2, hr, e1, hq, F97h, size97, hs, hb, hb2, hexC, -Int.natCast_ediv]
    · have hm2 : (k : Int) % 16 = 4 := by omega
      simp [c97, svBytes, List.replicate, hm, hm2, hr, e1, hq, F97h, size97, hs, hb, hb2, hexC, -Int.natCast_ediv]
    · have hm2 : (k : Int) % 16 = 5 := by omega
      simp [c97, svBytes, List.replicate, hm, hm2, hr, e1, hq, F97h, size97, hs, hb, hb2, hexC, -Int.natCast_ediv]
    · have hm2 : (k : Int) % 16 = 6 := by omega
      simp [c97, svBytes, List.replicate, hm, hm2, hr, e1, hq, F97h, size97, hs, hb, hb2, hexC, -Int.natCast_ediv]
    · have hm2 : (k : Int) % 16 = 7 := by omega
      simp [c97, svBytes, List.replicate, hm, hm2, hr, e1, hq, F97h, size97, hs, hb, hb2, hexC, -Int.natCast_ediv]
    · have hm2 : (k : Int) % 16 = 8 := by omega
      simp [c97, svBytes, List.replicate, hm, hm2, hr, e1, hq, F97h, size97, hs, hb, hb2, hexC, -Int.natCast_ediv]
    · have hm2 : (k : Int) % 16 = 9 := by omega
      simp [c97, svBytes, List.replicate, hm, hm2, hr, e1, hq, F97h, size97, hs, hb, hb2, hexC, -Int.natCast_ediv]
    · have hm2 : (k : Int) % 16 = 10 := by omega
      simp [c97, svBytes, List.replicate, hm, hm2, hr, e1, hq, F97h, size97, hs, hb, hb2, hexC, -Int.natCast_ediv]
    · have hm2 : (k : Int) % 16 = 11 := by omega
      simp [c97, svBytes, List.replicate, hm, hm2, hr, e1, hq, F97h, size97, hs, hb, hb2, hexC, -Int.natCast_ediv]
    · have hm2 : (k : Int) % 16 = 12 := by omega
      simp [c97, svBytes, List.replicate, hm, hm2, hr, e1, hq, F97h, size97, hs, hb, hb2, hexC, -Int.natCast_ediv]
    · have hm2 : (k : Int) % 16 = 13 := by omega
      simp [c97, svBytes, List.replicate, hm, hm2, hr, e1, hq, F97h, size97, hs, hb, hb2, hexC, -Int.natCast_ediv]
    · have hm2 : (k : Int) % 16 = 14 := by omega
      simp [c97, svBytes, List.replicate, hm, hm2, hr, e1, hq, F97h, size97, hs, hb, hb2, hexC, -Int.natCast_ediv]
    · have hm2 : (k : Int) % 16 = 15 := by omega
      simp [c97, svBytes, List.replicate, hm, hm2, hr, e1, hq, F97h, size97, hs, hb, hb2, hexC, -Int.natCast_ediv]

def S1143 (F : List SV → Option AV) : Prop := ∀ n k : Nat, n < 18446744073709551616 → k < 1000000 → F [.int .u64 (n : Int), .int .u64 16, .int .i64 (k : Int)] = some (.sv (.str (padS (hexS n) k)))

theorem loop1143 (E : Env) (cf : CallF) (m : Nat) (n : Nat) (hn : n < 1000000) :
    ∀ (d : Nat) (s : List UInt8) (k : Nat), n - s.length ≤ d → s.length < 1000000000000 → d < k →
      rounds (evC E cf m b1143_0) k { tm := [.sv .undef, .sv .undef, .sv (.int .i64 n), .sv .undef, .sv .undef, .sv .undef, .sv .undef, .sv (.str s)] ++ List.replicate 10 (.sv .undef), lz := none, bx := [], df := [] } =
        some (.exit 0, { tm := [.sv .undef, .sv .undef, .sv .undef, .sv .undef, .sv .undef, .sv .undef, .sv .undef, .sv (.str (padS s n))] ++ List.replicate 10 (.sv .undef), lz := none, bx := [], df := [] }) := by
  intro d
  induction d with
  | zero =>
    intro s k hd hs hk
    obtain ⟨k, rfl⟩ : ∃ k', k = k' + 1 := ⟨k - 1, by omega⟩
    have hlt : ¬ (s.length < n) := by omega
    refine rounds_out ?_ (by simp)
    rw [padS_done hlt]
    have hltI : ¬ (s.length : Int) < (n : Int) := by omega
    simp [b1143_0, List.replicate, hlt, hltI]
  | succ d ih =>
    intro s k hd hs hk
    obtain ⟨k, rfl⟩ : ∃ k', k = k' + 1 := ⟨k - 1, by omega⟩
    by_cases hlt : s.length < n
    · have he := ih (48 :: s) k (by simp; omega) (by simp; omega) (by omega)
      rw [padS_step hlt] at he
      rw [← he]
      refine rounds_step ?_
      have hltI : (s.length : Int) < (n : Int) := by omega
      have hb : 1 + s.length < 4611686018427387904 := by omega
      simp [b1143_0, List.replicate, hlt, hltI, hb]
    · refine rounds_out ?_ (by simp)
      rw [padS_done hlt]
      have hltI : ¬ (s.length : Int) < (n : Int) := by omega
      simp [b1143_0, List.replicate, hlt, hltI]

theorem ev1143 (E : Env) (h : E.code 67 = some c1143) (h97 : E.pure 126 = some F97h) : S1143 (autoF E 67) := by
  intro n k hn hk
  have h16 := hexS_len16 hn
  have hl := loop1143 E (evF E (k + 1)) (k + 1) k hk k (hexS n) (k + 1) (by omega) (by omega) (by omega)
  have hF := F97h_eq n hn
  refine autoF_sv (n := k + 1) ?_ rfl
  unfold evP
  simp only [h]
  simp only [List.replicate, List.cons_append, List.nil_append] at hl
  simp [c1143, List.replicate, h97, hF, hl]

/-! ### Large letters: bytes written in place -/

theorem svBytes_map (l : List UInt8) : svBytes (bytesSV l) = some l := svBytes_bytes l

def S1113 (F : List SV → Option AV) : Prop := ∀ n k : Nat, n < 18446744073709551616 → k < 1000000 → F [.int .u64 (n : Int), .int .i64 (k : Int)] = some (.sv (.str (upS n k)))

def cellsB (l : List UInt8) : List Cell := (bytesSV l).map .sv

theorem cellsB_cons (c : UInt8) (l : List UInt8) : cellsB (c :: l) = .sv (.int .u8 (c.toNat : Int)) :: cellsB l := rfl
theorem cellsB_append (a b : List UInt8) : cellsB (a ++ b) = cellsB a ++ cellsB b := by simp [cellsB, bytesSV]
theorem cellsB_length (a : List UInt8) : (cellsB a).length = a.length := by simp [cellsB, bytesSV]
theorem cellsB_plain (a : List UInt8) : (cellsB a).map Cell.plain = bytesSV a := by
  unfold cellsB bytesSV
  rw [List.map_map, List.map_map]
  rfl

def S123 (F : List SV → Option AV) : Prop := ∀ s : List UInt8, s.length < 9223372036854775807 → F [.str s, .int .u64 16] = some (.sv (.tup (match hexV s with | some m => [.int .u64 m, .bool true] | none => match numV 16 0 s with | some m => [.int .u64 m, .bool false] | none => [.int .u64 0, .bool false])))

theorem loop123h (E : Env) (cf : CallF) (hP : E.pure 146 = some F134) (s : List UInt8) (hs : s.length < 9223372036854775807) (m : Nat) :
    ∀ (rest pre : List UInt8) (n k : Nat), s = pre ++ rest → n < 18446744073709551616 → rest.length < k →
      rounds (evC E cf m b123_0) k { tm := [.sv (.str s), .sv (.int .u64 16), .sv .undef, .sv .undef, .sv .undef, .sv .undef, .sv (.int .u64 n), .sv .undef, .sv .undef, .sv .undef, .sv (.int .i64 s.length), .sv (.int .i64 pre.length)] ++ List.replicate 26 (.sv .undef), lz := none, bx := [], df := [] } =
        match numV 16 n rest with
        | some m => some (.exit 0, { tm := [.sv (.str s), .sv .undef, .sv .undef, .sv .undef, .sv .undef, .sv .undef, .sv (.int .u64 m)] ++ List.replicate 31 (.sv .undef), lz := none, bx := [], df := [] })
        | none => some (.ret, { tm := [.sv .undef, .sv .undef, .sv .undef, .sv .undef, .sv (.int .u64 0), .sv (.bool false)] ++ List.replicate 32 (.sv .undef), lz := none, bx := [], df := [] }) := by
  intro rest
  induction rest with
  | nil =>
    intro pre n k hsp hn hk
    obtain ⟨k, rfl⟩ : ∃ k', k = k' + 1 := ⟨k - 1, by omega⟩
    have hlt : ¬ (pre.length < s.length) := by rw [hsp]; simp
    simp [rounds, b123_0, List.replicate, hlt, numV]
  | cons c rest ih =>
    intro pre n k hsp hn hk
    obtain ⟨k, rfl⟩ : ∃ k', k = k' + 1 := ⟨k - 1, by omega⟩
    have hlt : pre.length < s.length := by rw [hsp]; simp
    have hc : ∀ h : pre.length < s.length, s[pre.length]'h = c := by subst hsp; simp
    have hc1 : (c.toNat : Int) < 256 := by have := c.toNat_lt; omega
    have hd := digitV_le c.toNat
    by_cases h1 : digitV c.toNat ≥ 16
    · have e1 : (16 : Int) ≤ (digitV c.toNat : Int) := by omega
      have hv : numV 16 n (c :: rest) = none := by simp [numV, h1]
      rw [hv]
      simp [rounds, b123_0, List.replicate, hlt, hc, hP, F134, hc1, e1]
    · have e1 : ¬ (16 : Int) ≤ (digitV c.toNat : Int) := by omega
      have hw : IntKind.u64.wrap (18446744073709551615 - (digitV c.toNat : Int)) = ((18446744073709551615 - digitV c.toNat : Nat) : Int) := by rw [IntKind.wrap_u64]; omega
      have hq : IntKind.u64.wrap (((18446744073709551615 - digitV c.toNat : Nat) : Int) / 16) = (((18446744073709551615 - digitV c.toNat) / 16 : Nat) : Int) := by rw [IntKind.wrap_u64]; omega
      by_cases h2 : n > (18446744073709551615 - digitV c.toNat) / 16
      · have e2 : (((18446744073709551615 - digitV c.toNat) / 16 : Nat) : Int) < (n : Int) := by omega
        have hv : numV 16 n (c :: rest) = none := by simp [numV, h2]
        rw [hv]
        simp [rounds, b123_0, List.replicate, hlt, hc, hP, F134, hc1, e1, hw, hq, e2, -Int.natCast_ediv]
      · have e2 : ¬ (((18446744073709551615 - digitV c.toNat) / 16 : Nat) : Int) < (n : Int) := by omega
        have hv : numV 16 n (c :: rest) = numV 16 (n * 16 + digitV c.toNat) rest := by simp [numV, h1, h2]
        have hb : n * 16 + digitV c.toNat < 18446744073709551616 := by omega
        have hw1 : IntKind.u64.wrap (IntKind.u64.wrap ((n : Int) * 16) + (digitV c.toNat : Int)) = ((n * 16 + digitV c.toNat : Nat) : Int) := by rw [IntKind.wrap_u64, IntKind.wrap_u64]; omega
        have hw2 : IntKind.i64.wrap ((pre.length : Int) + 1) = ((pre ++ [c]).length : Int) := by rw [IntKind.wrap_i64]; simp; omega
        have := ih (pre ++ [c]) (n * 16 + digitV c.toNat) k (by rw [hsp]; simp) hb (by simp at hk; omega)
        rw [hv, ← this]
        simp [rounds, b123_0, List.replicate, hlt, hc, hP, F134, hc1, e1, hw, hq, e2, hw1, hw2, -Int.natCast_ediv]

theorem ev123h (E : Env) (h : E.code 81 = some c123) (h134 : E.pure 146 = some F134) : S123 (autoF E 81) := by
  intro s hs
  have hl := loop123h E (evF E (s.length + 1)) h134 s hs (s.length + 1) s [] 0 (s.length + 1) rfl (by omega) (by omega)
  simp [List.replicate] at hl
  refine autoF_sv (n := s.length + 1) ?_ rfl
  unfold evP
  simp only [h]
  unfold hexV
  cases hv : numV 16 0 s with
  | none => simp [hv] at hl; simp [c123, List.replicate, hl]
  | some m =>
    simp [hv] at hl
    by_cases hne : s = []
    · subst hne
      simp only [List.length_nil, Int.ofNat_zero, Int.natCast_zero, Nat.zero_add] at hl ⊢
      simp [c123, List.replicate, hl]
    · simp [c123, List.replicate, hl, hne]

end Go.Ev

set_option linter.unusedSimpArgs false
set_option linter.unusedVariables false
namespace Go.Ev
open Go.Proofs

theorem addW {a b : List UInt8} (h : a.length + b.length < 4611686018427387904) : binSV .add (.str a) (.str b) = some (.str (a ++ b)) := by
  simp only [binSV, if_pos h]

def S3142 (F : List SV → Option AV) : Prop := ∀ s : List UInt8, s.length < 1000000000000 → F [.str s] = some (.sv (.bool (ifName s)))

def st3142 (s : List UInt8) (i : Nat) : SA := { nt := 56, tm := [(7, .sv (.int .i64 i)), (6, .sv (.int .i64 s.length)), (0, .sv (.str s))], lz := none, bx := [], df := [] }

set_option maxHeartbeats 4000000 in
theorem step3142 (E : Env) (cf : CallF) (m : Nat) (s : List UInt8) (hs : s.length < 1000000000000) (i : Nat) (hi : i < s.length) (c : UInt8) (hc : s[i]? = some c) :
    evCA E cf m b3142_0 (st3142 s i) = if ifC c = true then some (.normal, st3142 s (i + 1)) else some (.ret, { nt := 56, tm := [(2, .sv (.bool false))], lz := none, bx := [], df := [] }) := by
  have hw : IntKind.i64.wrap ((i : Int) + 1) = ((i + 1 : Nat) : Int) := by rw [IntKind.wrap_i64]; omega
  have hget : s[i]'hi = c := by
    rw [List.getElem?_eq_getElem hi] at hc; simpa using hc
  clear hc
  have e46 : ((c.toNat : Int) == 46) = decide (c.toNat = 46) := by rw [Bool.eq_iff_iff]; simp; omega
  have e46n : ((c.toNat : Int) != 46) = !decide (c.toNat = 46) := by rw [Bool.eq_iff_iff]; simp; omega
  have e45n : ((c.toNat : Int) != 45) = !decide (c.toNat = 45) := by rw [Bool.eq_iff_iff]; simp; omega
  have e95n : ((c.toNat : Int) != 95) = !decide (c.toNat = 95) := by rw [Bool.eq_iff_iff]; simp; omega
  have d1 : ((c.toNat : Int) < 97) = (c.toNat < 97) := by rw [eq_iff_iff]; omega
  have d2 : ((122 : Int) < (c.toNat : Int)) = (122 < c.toNat) := by rw [eq_iff_iff]; omega
  have d3 : ((c.toNat : Int) < 65) = (c.toNat < 65) := by rw [eq_iff_iff]; omega
  have d4 : ((90 : Int) < (c.toNat : Int)) = (90 < c.toNat) := by rw [eq_iff_iff]; omega
  have d5 : ((c.toNat : Int) < 48) = (c.toNat < 48) := by rw [eq_iff_iff]; omega
  have d6 : ((57 : Int) < (c.toNat : Int)) = (57 < c.toNat) := by rw [eq_iff_iff]; omega
  unfold ifC
  have p1 : (97 ≤ c.toNat) = ¬ c.toNat < 97 := by rw [eq_iff_iff]; omega
  have p2 : (c.toNat ≤ 122) = ¬ 122 < c.toNat := by rw [eq_iff_iff]; omega
  have p3 : (65 ≤ c.toNat) = ¬ c.toNat < 65 := by rw [eq_iff_iff]; omega
  have p4 : (c.toNat ≤ 90) = ¬ 90 < c.toNat := by rw [eq_iff_iff]; omega
  have p5 : (48 ≤ c.toNat) = ¬ c.toNat < 48 := by rw [eq_iff_iff]; omega
  have p6 : (c.toNat ≤ 57) = ¬ 57 < c.toNat := by rw [eq_iff_iff]; omega
  simp only [p1, p2, p3, p4, p5, p6]
  clear p1 p2 p3 p4 p5 p6 e46
  (((((((by_cases a1 : c.toNat < 97 <;> by_cases a2 : 122 < c.toNat <;> try (exfalso; omega)) <;> by_cases a3 : c.toNat < 65 <;> try (exfalso; omega)) <;> by_cases a4 : 90 < c.toNat <;> try (exfalso; omega)) <;> by_cases a5 : c.toNat < 48 <;> try (exfalso; omega)) <;> by_cases a6 : 57 < c.toNat <;> try (exfalso; omega)) <;> by_cases a7 : c.toNat = 46 <;> try (exfalso; omega)) <;> by_cases a8 : c.toNat = 45 <;> try (exfalso; omega)) <;> by_cases a9 : c.toNat = 95 <;> try (exfalso; omega)
  all_goals simp [st3142, b3142_0, hi, hget, hw, e46n, e45n, e95n, d1, d2, d3, d4, d5, d6, a1, a2, a3, a4, a5, a6, a7, a8, a9]

theorem loop3142 (E : Env) (cf : CallF) (m : Nat) (s : List UInt8) (hs : s.length < 1000000000000) :
    ∀ (rest pre : List UInt8) (k : Nat), s = pre ++ rest → rest.length < k →
      roundsA (evCA E cf m b3142_0) k (st3142 s pre.length) = if rest.all ifC = true then some (.exit 0, { nt := 56, tm := [(0, .sv (.str s))], lz := none, bx := [], df := [] }) else some (.ret, { nt := 56, tm := [(2, .sv (.bool false))], lz := none, bx := [], df := [] }) := by
  intro rest
  induction rest with
  | nil =>
    intro pre k hsp hk
    obtain ⟨k, rfl⟩ : ∃ k', k = k' + 1 := ⟨k - 1, by omega⟩
    have hlt : ¬ (pre.length < s.length) := by rw [hsp]; simp
    refine roundsA_out ?_ (by simp)
    simp [b3142_0, st3142, hlt]
  | cons c rest ih =>
    intro pre k hsp hk
    obtain ⟨k, rfl⟩ : ∃ k', k = k' + 1 := ⟨k - 1, by omega⟩
    have hlt : pre.length < s.length := by rw [hsp]; simp
    have hc : s[pre.length]? = some c := by rw [hsp]; simp
    have hst := step3142 E cf m s hs pre.length hlt c hc
    have he := ih (pre ++ [c]) k (by rw [hsp]; simp) (by simp at hk; omega)
    rw [List.length_append, List.length_singleton] at he
    cases hv : ifC c with
    | false =>
      rw [hv, if_neg (by simp)] at hst
      rw [if_neg (by simp [hv])]
      exact roundsA_out hst (by simp)
    | true =>
      rw [hv, if_pos rfl] at hst
      rw [roundsA_step hst, he, show (c :: rest).all ifC = rest.all ifC from by simp [hv]]

theorem ev3142 (E : Env) (h : E.code 142 = some c3142) : S3142 (autoF E 142) := by
  intro s hs
  have hl := loop3142 E (evF E (s.length + 1)) (s.length + 1) s hs s [] (s.length + 1) rfl (by omega)
  refine autoA_sv (n := s.length + 1) ?_ rfl
  unfold evPA
  simp only [h]
  simp only [st3142, List.length_nil, Int.ofNat_zero, Int.natCast_zero] at hl
  unfold ifName
  cases hv : s.all ifC with
  | false => rw [hv, if_neg (by simp)] at hl; simp [c3142, hl]
  | true =>
    rw [hv, if_pos rfl] at hl
    by_cases h1 : 1 ≤ s.length
    · by_cases h2 : s.length ≤ 15
      · have e1 : (1 : Int) ≤ (s.length : Int) := by omega
        have e2 : (s.length : Int) ≤ 15 := by omega
        simp [c3142, hl, h1, h2, e1, e2]
      · have e1 : (1 : Int) ≤ (s.length : Int) := by omega
        have e2 : ¬ (s.length : Int) ≤ 15 := by omega
        simp [c3142, hl, h1, h2, e1, e2]
    · have e1 : ¬ (1 : Int) ≤ (s.length : Int) := by omega
      simp [c3142, hl, h1, e1]

/-! ### The check -/

def st3066i (xs : List SV) (i : Nat) (bx : List Box) (ns : List SV) (j : Nat) : SA := { nt := 64, tm := [(41, .sv (.int .i64 j)), (40, .sv (.int .i64 ns.length)), (39, .sv (.sl ns)), (10, .sv (.int .i64 i)), (9, .sv (.int .i64 xs.length)), (8, .sv (.sl xs))], lz := none, bx := bx, df := [] }
def st3066 (xs : List SV) (i : Nat) (bx : List Box) : SA := { nt := 64, tm := [(10, .sv (.int .i64 i)), (9, .sv (.int .i64 xs.length)), (8, .sv (.sl xs))], lz := none, bx := bx, df := [] }
def bad3066 (bx : List Box) : SA := { nt := 64, tm := [(2, .sv (.bool false))], lz := none, bx := bx, df := [] }

set_option maxHeartbeats 4000000 in
theorem step3066i (E : Env) (cf : CallF) (m : Nat) (xs : List SV) (i : Nat) (bx : List Box) (ns : List SV) (j : Nat) (hj : j < ns.length) (hjl : j < 1000000) (x : Nat) (hc : ∀ h : j < ns.length, ns[j]'h = .int .u64 (x : Int)) :
    evCA E cf m b3066_0 (st3066i xs i bx ns j) = if (decide (i64 x < 2147483648) && (decide (-2147483648 ≤ i64 x) && (decide (j ≤ 2) || decide (0 ≤ i64 x)))) = true then some (.normal, st3066i xs i bx ns (j + 1)) else some (.ret, bad3066 bx) := by
  have hw : IntKind.i64.wrap ((j : Int) + 1) = ((j + 1 : Nat) : Int) := by rw [IntKind.wrap_i64]; omega
  have hv : IntKind.i64.wrap (x : Int) = i64 x := rfl
  generalize i64 x = v at *
  by_cases q1 : v < 2147483648
  · have e1 : ¬ (2147483648 : Int) ≤ v := by omega
    by_cases q2 : -2147483648 ≤ v
    · have e2 : ¬ v < -2147483648 := by omega
      by_cases q3 : j ≤ 2
      · have e3 : ¬ (2 : Int) < (j : Int) := by omega
        simp [st3066i, bad3066, b3066_0, hj, hc, hv, hw, q1, q2, q3, e1, e2, e3]
      · have e3 : (2 : Int) < (j : Int) := by omega
        by_cases q4 : 0 ≤ v
        · have e4 : ¬ v < 0 := by omega
          simp [st3066i, bad3066, b3066_0, hj, hc, hv, hw, q1, q2, q3, q4, e1, e2, e3, e4]
        · have e4 : v < 0 := by omega
          simp [st3066i, bad3066, b3066_0, hj, hc, hv, hw, q1, q2, q3, q4, e1, e2, e3, e4]
    · have e2 : v < -2147483648 := by omega
      simp [st3066i, bad3066, b3066_0, hj, hc, hv, hw, q1, q2, e1, e2]
  · have e1 : (2147483648 : Int) ≤ v := by omega
    simp [st3066i, bad3066, b3066_0, hj, hc, hv, hw, q1, e1]

theorem loop3066i (E : Env) (cf : CallF) (m : Nat) (xs : List SV) (i : Nat) (bx : List Box) (ns : List SV) (hns : ns.length < 1000000) :
    ∀ (rest : List Nat) (pre : List SV) (j k : Nat), ns = pre ++ u64s rest → j = pre.length → rest.length < k →
      roundsA (evCA E cf m b3066_0) k (st3066i xs i bx ns j) = if wlQ j rest = true then some (.exit 2, st3066 xs i bx) else some (.ret, bad3066 bx) := by
  intro rest
  induction rest with
  | nil =>
    intro pre j k hsp hj hk
    obtain ⟨k, rfl⟩ : ∃ k', k = k' + 1 := ⟨k - 1, by omega⟩
    have hlt : ¬ (j < ns.length) := by rw [hsp, hj]; simp [u64s]
    rw [if_pos (show wlQ j [] = true from rfl)]
    refine roundsA_out ?_ (by simp)
    simp [b3066_0, st3066i, st3066, hlt]
  | cons x rest ih =>
    intro pre j k hsp hj hk
    obtain ⟨k, rfl⟩ : ∃ k', k = k' + 1 := ⟨k - 1, by omega⟩
    have hlt : j < ns.length := by rw [hsp, hj]; simp [u64s]
    have hc : ∀ h : j < ns.length, ns[j]'h = .int .u64 (x : Int) := by subst hj; subst hsp; simp [u64s]
    have hst := step3066i E cf m xs i bx ns j hlt (by omega) x hc
    have hwq : wlQ j (x :: rest) = ((decide (i64 x < 2147483648) && (decide (-2147483648 ≤ i64 x) && (decide (j ≤ 2) || decide (0 ≤ i64 x)))) && wlQ (j + 1) rest) := rfl
    rw [hwq]
    generalize (decide (i64 x < 2147483648) && (decide (-2147483648 ≤ i64 x) && (decide (j ≤ 2) || decide (0 ≤ i64 x)))) = q at *
    cases q with
    | false =>
      rw [if_neg (by simp)] at hst
      rw [Bool.false_and, if_neg (by simp)]
      exact roundsA_out hst (by simp)
    | true =>
      rw [if_pos rfl] at hst
      rw [Bool.true_and, roundsA_step hst]
      exact ih (pre ++ [.int .u64 (x : Int)]) (j + 1) k (by rw [hsp]; simp [u64s]) (by simp [hj]) (by simp at hk; omega)

set_option maxRecDepth 100000 in
set_option maxHeartbeats 16000000 in
theorem step3066 (E : Env) (cf : CallF) (m : Nat) (hm : 10 < m) (h42 : Has E 142 S3142) (xs : List SV) (r : RowD) (hf : r.fits3) (i : Nat) (hlt : i < xs.length) (hxl : xs.length < 1000000000)
    (hc : ∀ h : i < xs.length, xs[i]'h = .agg [.str r.name, .sl (u64s r.N), .sl (strs r.S)]) (bx : List Box) :
    evCA E cf m b3066_1 (st3066 xs i bx) = if wlOk r = true then some (.normal, st3066 xs (i + 1) (bx ++ [rowBox r])) else some (.ret, bad3066 (bx ++ [rowBox r])) := by
  obtain ⟨F, hp, hF⟩ := h42
  have hw : IntKind.i64.wrap ((i : Int) + 1) = ((i + 1 : Nat) : Int) := by rw [IntKind.wrap_i64]; omega
  obtain ⟨nm, N, S⟩ := r
  obtain ⟨f1, f2, f3, f4, f5⟩ := hf
  simp only at *
  have e42 := hF nm (by omega)
  unfold wlOk
  simp only
  have hbx : rowBox ⟨nm, N, S⟩ = .live [.sv (.str nm), .sv (.sl (u64s N)), .sv (.sl (strs S))] := rfl
  rw [hbx]
  clear hbx hF
  have hSl : (strs S).length = S.length := strs_length S
  have hNl : (u64s N).length = N.length := u64s_length N
  have b10 : ((N.length : Int) != 10) = !decide (N.length = 10) := by rw [Bool.eq_iff_iff]; simp; omega
  generalize ifName nm = q1 at *
  cases q1 with
  | false => simp [st3066, bad3066, b3066_1, hlt, hc, hp, e42]
  | true =>
    by_cases q2 : N.length = 10
    rotate_left
    · simp [st3066, bad3066, b3066_1, hlt, hc, hp, e42, hNl, b10, q2]
    by_cases q3 : S.length = 0
    rotate_left
    · have e3 : 0 < S.length := by omega
      simp [st3066, bad3066, b3066_1, hlt, hc, hp, e42, hNl, hSl, b10, q2, q3, e3]
    match N, q2 with
    | [n0, n1, n2, n3, n4, n5, n6, n7, n8, n9], _ =>
      match S, q3 with
      | [], _ =>
        simp only [List.getD_cons_zero, List.drop_succ_cons, List.drop_zero]
        by_cases q4 : n0 < 65536
        rotate_left
        · have e4 : (65536 : Int) ≤ (n0 : Int) := by omega
          simp [st3066, bad3066, b3066_1, hlt, hc, hp, e42, u64s, strs, q4, e4]
        have e4 : ¬ (65536 : Int) ≤ (n0 : Int) := by omega
        have hin := loop3066i E cf m xs i (bx ++ [.live [.sv (.str nm), .sv (.sl (u64s [n0, n1, n2, n3, n4, n5, n6, n7, n8, n9])), .sv (.sl (strs []))]]) (u64s [n1, n2, n3, n4, n5, n6, n7, n8, n9]) (by simp [u64s]) [n1, n2, n3, n4, n5, n6, n7, n8, n9] [] 0 m rfl rfl (by simp; omega)
        simp only [st3066i, st3066, bad3066, u64s, strs, List.map_cons, List.map_nil, List.length_cons, List.length_nil, Int.natCast_zero, Int.ofNat_zero] at hin hc ⊢
        rw [show ((0 + 1 + 1 + 1 + 1 + 1 + 1 + 1 + 1 + 1 : Nat) : Int) = 9 from rfl] at hin
        generalize wlQ 0 [n1, n2, n3, n4, n5, n6, n7, n8, n9] = q5 at *
        cases q5 with
        | false => rw [if_neg (by simp)] at hin; simp [b3066_1, hlt, hc, hp, e42, q4, e4, hin]
        | true => rw [if_pos rfl] at hin; simp [b3066_1, hlt, hc, hp, e42, q4, e4, hin, hw]

theorem loop3066 (E : Env) (cf : CallF) (m : Nat) (hm : 10 < m) (h42 : Has E 142 S3142) (xs : List SV) (hxl : xs.length < 1000000000) :
    ∀ (rest : List RowD) (pre : List SV) (bx : List Box) (i k : Nat), xs = pre ++ rowsSV rest → i = pre.length → (∀ r ∈ rest, r.fits3) → rest.length < k →
      ∃ bx', roundsA (evCA E cf m b3066_1) k (st3066 xs i bx) = if rest.all wlOk = true then some (.exit 0, { nt := 64, tm := [], lz := none, bx := bx', df := [] }) else some (.ret, bad3066 bx') := by
  intro rest
  induction rest with
  | nil =>
    intro pre bx i k hsp hi _ hk
    obtain ⟨k, rfl⟩ : ∃ k', k = k' + 1 := ⟨k - 1, by omega⟩
    have hlt : ¬ (i < xs.length) := by rw [hsp, hi]; simp [rowsSV]
    refine ⟨bx, roundsA_out ?_ (by simp)⟩
    simp [st3066, b3066_1, hlt]
  | cons r rest ih =>
    intro pre bx i k hsp hi hr hk
    obtain ⟨k, rfl⟩ : ∃ k', k = k' + 1 := ⟨k - 1, by omega⟩
    have hlt : i < xs.length := by rw [hsp, hi]; simp [rowsSV]
    have hc : ∀ h : i < xs.length, xs[i]'h = .agg [.str r.name, .sl (u64s r.N), .sl (strs r.S)] := by subst hi; subst hsp; simp [rowsSV, RowD.sv]
    have hst := step3066 E cf m hm h42 xs r (hr r (by simp)) i hlt hxl hc bx
    cases hv : wlOk r with
    | false =>
      rw [hv, if_neg (by simp)] at hst
      exact ⟨_, by rw [if_neg (by simp [hv])]; exact roundsA_out hst (by simp)⟩
    | true =>
      rw [hv, if_pos rfl] at hst
      obtain ⟨bx', he⟩ := ih (pre ++ [r.sv]) (bx ++ [rowBox r]) (i + 1) k (by rw [hsp]; simp [rowsSV]) (by simp [hi]) (fun q hq => hr q (by simp [hq])) (by simp at hk; omega)
      exact ⟨bx', by rw [roundsA_step hst, he]; simp [hv]⟩

def S3066 (F : List SV → Option AV) : Prop := ∀ l : List RowD, rowsFit3 l → F [.sl (rowsSV l)] = some (.sv (.bool (wlAll l)))

theorem ev3066 (E : Env) (h : E.code 66 = some c3066) (h42 : Has E 142 S3142) : S3066 (autoF E 66) := by
  intro l hl
  have hrl : (rowsSV l).length = l.length := by simp [rowsSV]
  obtain ⟨bx', he⟩ := loop3066 E (evF E (l.length + 12)) (l.length + 12) (by omega) h42 (rowsSV l) (by have := hl.1; omega) l [] [] 0 (l.length + 12) rfl rfl hl.2 (by omega)
  refine autoA_sv (n := l.length + 12) ?_ rfl
  unfold evPA
  simp only [h]
  unfold wlAll
  simp only [st3066, bad3066, Int.ofNat_zero, Int.natCast_zero] at he
  generalize rowsSV l = R at *
  cases hv : l.all wlOk with
  | false => rw [hv, if_neg (by simp)] at he; simp [c3066, he]
  | true => rw [hv, if_pos rfl] at he; simp [c3066, he]

/-! ### The printing -/

def stP3026 (xs : List SV) (out : List UInt8) (i : Nat) (bx : List Box) (ns : List SV) (j : Nat) : SA := { nt := 61, tm := [(34, .sv (.int .i64 j)), (33, .sv (.int .i64 ns.length)), (32, .sv (.sl ns)), (14, .sv (.int .i64 i)), (13, .sv (.int .i64 xs.length)), (12, .sv (.sl xs)), (4, .sv (.str out))], lz := none, bx := bx, df := [] }
def st3026 (xs : List SV) (out : List UInt8) (i : Nat) (bx : List Box) : SA := { nt := 61, tm := [(14, .sv (.int .i64 i)), (13, .sv (.int .i64 xs.length)), (12, .sv (.sl xs)), (4, .sv (.str out))], lz := none, bx := bx, df := [] }

theorem wlCol_len (i x : Nat) : (wlCol i x).length ≤ 30 := by
  obtain ⟨r1, r2⟩ := i64_range x
  have h1 := sdecS_len r1 r2
  have h2 := rightS_len (sdecS (i64 x)) 3
  have h3 := rightS_len (sdecS (i64 x)) 6
  unfold wlCol
  split <;> simp only [List.length_append, List.length_cons, List.length_nil] <;> omega

theorem wlCols_len : ∀ (ns : List Nat) (i : Nat), (wlCols i ns).length ≤ ns.length * 30
  | [], _ => by simp [wlCols]
  | n :: ns, i => by
    have h1 := wlCol_len i n
    have h2 := wlCols_len ns (i + 1)
    unfold wlCols
    simp only [List.length_append, List.length_cons]
    omega

set_option maxHeartbeats 4000000 in
theorem stepP3026 (E : Env) (cf : CallF) (m : Nat) (h46 : Has E 59 S46) (h58 : E.pure 68 = some F58) (xs : List SV) (out : List UInt8) (ho : out.length < 1000000000000000000 + 1000) (i : Nat) (bx : List Box) (ns : List SV) (j : Nat) (hj : j < ns.length) (hjl : ns.length < 1000000) (x : Nat) (hc : ∀ h : j < ns.length, ns[j]'h = .int .u64 (x : Int)) :
    evCA E cf m b3026_0 (stP3026 xs out i bx ns j) = some (.normal, stP3026 xs (out ++ wlCol j x) i bx ns (j + 1)) := by
  obtain ⟨FR, hpR, hR⟩ := h46
  obtain ⟨r1, r2⟩ := i64_range x
  have hw : binSV .add (.int .i64 (j : Int)) (.int .i64 1) = some (.int .i64 ((j + 1 : Nat) : Int)) := by
    simp only [binSV, if_true]
    rw [show IntKind.i64.wrap ((j : Int) + 1) = ((j + 1 : Nat) : Int) from by rw [IntKind.wrap_i64]; omega]
  have hlss : binSV .lss (.int .i64 (j : Int)) (.int .i64 (ns.length : Int)) = some (.bool true) := by
    simp only [binSV, if_true, show (j : Int) < (ns.length : Int) from by omega, decide_true]
  have hl3 : binSV .lss (.int .i64 (j : Int)) (.int .i64 3) = some (.bool (decide (j < 3))) := by
    simp only [binSV, if_true]
    rw [show decide ((j : Int) < 3) = decide (j < 3) from by rw [Bool.eq_iff_iff]; simp; omega]
  have hv : IntKind.i64.wrap (x : Int) = i64 x := rfl
  have e58 : F58 [.int .i64 (i64 x)] = some (.sv (.str (sdecS (i64 x)))) := onlyIf_pos ⟨r1, r2⟩
  have hl := sdecS_len r1 r2
  have k3 := hR (sdecS (i64 x)) 3 (by omega) (by omega)
  have k6 := hR (sdecS (i64 x)) 6 (by omega) (by omega)
  have l3 := rightS_len (sdecS (i64 x)) 3
  have l6 := rightS_len (sdecS (i64 x)) 6
  rw [show ((3 : Nat) : Int) = 3 from rfl] at k3
  rw [show ((6 : Nat) : Int) = 6 from rfl] at k6
  unfold wlCol
  by_cases hi : j < 3
  · rw [if_pos hi]
    have hi' : decide (j < 3) = true := by simpa using hi
    rw [hi'] at hl3
    generalize rightS (sdecS (i64 x)) 3 = R at *
    generalize sdecS (i64 x) = D at *
    generalize i64 x = v at *
    obtain ⟨Z1, hZ1⟩ : ∃ z, z = [32, 32] ++ R := ⟨_, rfl⟩
    have y1 : binSV .add (.str [32, 32]) (.str R) = some (.str Z1) := by rw [hZ1]; exact addW (by simp; try omega)
    have x1 : Z1.length = 2 + R.length := by rw [hZ1, List.length_append]; simp; try omega
    obtain ⟨Z2, hZ2⟩ : ∃ z, z = Z1 ++ [46] := ⟨_, rfl⟩
    have y2 : binSV .add (.str Z1) (.str [46]) = some (.str Z2) := by rw [hZ2]; exact addW (by simp; try omega)
    have x2 : Z2.length = Z1.length + 1 := by rw [hZ2, List.length_append]; simp
    obtain ⟨Z3, hZ3⟩ : ∃ z, z = out ++ Z2 := ⟨_, rfl⟩
    have y3 : binSV .add (.str out) (.str Z2) = some (.str Z3) := by rw [hZ3]; exact addW (by omega)
    rw [show out ++ ([32, 32] ++ R ++ [46]) = Z3 from by rw [hZ3, hZ2, hZ1]]
    clear hZ1 hZ2 hZ3
    simp [-binSV, b3026_0, stP3026, hlss, hj, hc, hl3, hv, h58, e58, hpR, k3, y1, y2, y3, hw]
  · rw [if_neg hi]
    have hi' : decide (j < 3) = false := by simpa using hi
    rw [hi'] at hl3
    generalize rightS (sdecS (i64 x)) 6 = R at *
    generalize sdecS (i64 x) = D at *
    generalize i64 x = v at *
    obtain ⟨Z1, hZ1⟩ : ∃ z, z = [32] ++ R := ⟨_, rfl⟩
    have y1 : binSV .add (.str [32]) (.str R) = some (.str Z1) := by rw [hZ1]; exact addW (by simp; try omega)
    have x1 : Z1.length = 1 + R.length := by rw [hZ1, List.length_append]; simp; try omega
    obtain ⟨Z3, hZ3⟩ : ∃ z, z = out ++ Z1 := ⟨_, rfl⟩
    have y3 : binSV .add (.str out) (.str Z1) = some (.str Z3) := by rw [hZ3]; exact addW (by omega)
    rw [show out ++ ([32] ++ R) = Z3 from by rw [hZ3, hZ1]]
    clear hZ1 hZ3
    simp [-binSV, b3026_0, stP3026, hlss, hj, hc, hl3, hv, h58, e58, hpR, k6, y1, y3, hw]

theorem loopP3026 (E : Env) (cf : CallF) (m : Nat) (h46 : Has E 59 S46) (h58 : E.pure 68 = some F58) (xs : List SV) (i : Nat) (bx : List Box) (ns : List SV) (hns : ns.length < 1000000) :
    ∀ (rest : List Nat) (pre : List SV) (out : List UInt8) (j k : Nat), ns = pre ++ u64s rest → j = pre.length → out.length + rest.length * 30 < 1000000000000000000 + 1000 → rest.length < k →
      roundsA (evCA E cf m b3026_0) k (stP3026 xs out i bx ns j) = some (.exit 2, st3026 xs (out ++ wlCols j rest) i bx) := by
  intro rest
  induction rest with
  | nil =>
    intro pre out j k hsp hj _ hk
    obtain ⟨k, rfl⟩ : ∃ k', k = k' + 1 := ⟨k - 1, by omega⟩
    have hlt : ¬ (j < ns.length) := by rw [hsp, hj]; simp [u64s]
    refine roundsA_out ?_ (by simp)
    simp [b3026_0, stP3026, st3026, hlt, wlCols]
  | cons x rest ih =>
    intro pre out j k hsp hj ho hk
    obtain ⟨k, rfl⟩ : ∃ k', k = k' + 1 := ⟨k - 1, by omega⟩
    have hlt : j < ns.length := by rw [hsp, hj]; simp [u64s]
    have hc : ∀ h : j < ns.length, ns[j]'h = .int .u64 (x : Int) := by subst hj; subst hsp; simp [u64s]
    simp only [List.length_cons] at ho
    have hst := stepP3026 E cf m h46 h58 xs out (by omega) i bx ns j hlt hns x hc
    have hl := wlCol_len j x
    have he := ih (pre ++ [.int .u64 (x : Int)]) (out ++ wlCol j x) (j + 1) k (by rw [hsp]; simp [u64s]) (by simp [hj]) (by rw [List.length_append]; omega) (by simp at hk; omega)
    rw [roundsA_step hst, he]
    simp [wlCols]

set_option maxRecDepth 100000 in
set_option maxHeartbeats 16000000 in
theorem step3026 (E : Env) (cf : CallF) (m : Nat) (hm : 10 < m) (h46 : Has E 59 S46) (h58 : E.pure 68 = some F58) (h43 : Has E 67 S1143) (xs : List SV) (r : RowD) (hf : r.fits3) (n0 n1 n2 n3 n4 n5 n6 n7 n8 n9 : Nat) (hr : WlR r n0 n1 n2 n3 n4 n5 n6 n7 n8 n9) (out : List UInt8) (ho : out.length < 1000000000000000000) (i : Nat) (hlt : i < xs.length) (hxl : xs.length < 1000000000)
    (hc : ∀ h : i < xs.length, xs[i]'h = .agg [.str r.name, .sl (u64s [n0, n1, n2, n3, n4, n5, n6, n7, n8, n9]), .sl []]) (bx : List Box) :
    evCA E cf m b3026_1 (st3026 xs out i bx) = some (.normal, st3026 xs (out ++ (wlBody r ++ [10])) (i + 1) (bx ++ [rowBox r])) := by
  obtain ⟨FR, hpR, hR⟩ := h46
  obtain ⟨FP, hpP, hP⟩ := h43
  have hRR : Has E 59 S46 := ⟨FR, hpR, hR⟩
  obtain ⟨nm, N, S⟩ := r
  obtain ⟨f1, f2, f3, f4, f5⟩ := hf
  obtain ⟨rfl, rfl, hn, h0, hq⟩ := hr
  simp only at *
  obtain ⟨_, hnl, _⟩ := ifName_spec hn
  have kR := hR nm 6 (by omega) (by omega)
  have lR := rightS_len nm 6
  have kP := hP n0 4 (by omega) (by omega)
  have lP := padS4_len h0
  rw [show ((6 : Nat) : Int) = 6 from rfl] at kR
  rw [show ((4 : Nat) : Int) = 4 from rfl] at kP
  have hw : binSV .add (.int .i64 (i : Int)) (.int .i64 1) = some (.int .i64 ((i + 1 : Nat) : Int)) := by
    simp only [binSV, if_true]
    rw [show IntKind.i64.wrap ((i : Int) + 1) = ((i + 1 : Nat) : Int) from by rw [IntKind.wrap_i64]; omega]
  have hlss : binSV .lss (.int .i64 (i : Int)) (.int .i64 (xs.length : Int)) = some (.bool true) := by
    simp only [binSV, if_true, show (i : Int) < (xs.length : Int) from by omega, decide_true]
  have hbody : wlBody ⟨nm, [n0, n1, n2, n3, n4, n5, n6, n7, n8, n9], []⟩ = (rightS nm 6 ++ [58, 32] ++ padS (hexS n0) 4) ++ wlCols 0 [n1, n2, n3, n4, n5, n6, n7, n8, n9] := rfl
  rw [hbody]
  have hrb : rowBox ⟨nm, [n0, n1, n2, n3, n4, n5, n6, n7, n8, n9], []⟩ = .live [.sv (.str nm), .sv (.sl (u64s [n0, n1, n2, n3, n4, n5, n6, n7, n8, n9])), .sv (.sl [])] := rfl
  rw [hrb]
  have lC := wlCols_len [n1, n2, n3, n4, n5, n6, n7, n8, n9] 0
  simp only [List.length_cons, List.length_nil] at lC
  clear hbody hR hP hrb f2 f3
  generalize rightS nm 6 = R at *
  generalize padS (hexS n0) 4 = P at *
  obtain ⟨Z1, hZ1⟩ : ∃ z, z = R ++ [58, 32] := ⟨_, rfl⟩
  have y1 : binSV .add (.str R) (.str [58, 32]) = some (.str Z1) := by rw [hZ1]; exact addW (by simp; try omega)
  have x1 : Z1.length = R.length + 2 := by rw [hZ1, List.length_append]; simp
  obtain ⟨Z2, hZ2⟩ : ∃ z, z = Z1 ++ P := ⟨_, rfl⟩
  have y2 : binSV .add (.str Z1) (.str P) = some (.str Z2) := by rw [hZ2]; exact addW (by omega)
  have x2 : Z2.length = Z1.length + P.length := by rw [hZ2, List.length_append]
  obtain ⟨Z3, hZ3⟩ : ∃ z, z = out ++ Z2 := ⟨_, rfl⟩
  have y3 : binSV .add (.str out) (.str Z2) = some (.str Z3) := by rw [hZ3]; exact addW (by omega)
  have x3 : Z3.length = out.length + Z2.length := by rw [hZ3, List.length_append]
  have hin := loopP3026 E cf m hRR h58 xs i (bx ++ [.live [.sv (.str nm), .sv (.sl (u64s [n0, n1, n2, n3, n4, n5, n6, n7, n8, n9])), .sv (.sl [])]]) (u64s [n1, n2, n3, n4, n5, n6, n7, n8, n9]) (by simp [u64s]) [n1, n2, n3, n4, n5, n6, n7, n8, n9] [] Z3 0 m rfl rfl (by simp; omega) (by simp; omega)
  generalize wlCols 0 [n1, n2, n3, n4, n5, n6, n7, n8, n9] = C at *
  obtain ⟨W, hW⟩ : ∃ z, z = Z3 ++ C := ⟨_, rfl⟩
  rw [← hW] at hin
  obtain ⟨W2, hW2⟩ : ∃ z, z = W ++ [10] := ⟨_, rfl⟩
  have yW : binSV .add (.str W) (.str [10]) = some (.str W2) := by rw [hW2]; exact addW (by rw [hW]; simp; try omega)
  rw [show out ++ (R ++ [58, 32] ++ P ++ C ++ [10]) = W2 from by rw [hW2, hW, hZ3, hZ2, hZ1]; simp only [List.append_assoc]]
  clear hZ1 hZ2 hZ3 hW hW2 x1 x2 x3 lC lR lP hq h0 hn f4 f5 hRR
  simp only [stP3026, st3026, u64s, List.map_cons, List.map_nil, List.length_cons, List.length_nil, Int.ofNat_zero, Int.natCast_zero] at hin hc ⊢
  rw [show ((0 + 1 + 1 + 1 + 1 + 1 + 1 + 1 + 1 + 1 : Nat) : Int) = 9 from rfl] at hin
  simp [-binSV, b3026_1, hlss, hlt, hc, hpR, kR, hpP, kP, y1, y2, y3, hin, yW, hw]

theorem wlBody_len {r : RowD} {n0 n1 n2 n3 n4 n5 n6 n7 n8 n9 : Nat} (h : WlR r n0 n1 n2 n3 n4 n5 n6 n7 n8 n9) : (wlBody r ++ [10]).length ≤ 1000 := by
  obtain ⟨_, hnl, _⟩ := ifName_spec h.hn
  have lR := rightS_len r.name 6
  have lC := wlCols_len (r.N.drop 1) 0
  have hN := h.hN
  have lP := padS4_len h.h0
  unfold wlBody
  rw [hN] at lC ⊢
  simp only [List.getD_cons_zero, List.length_append, List.length_cons, List.length_nil, List.drop_succ_cons, List.drop_zero] at *
  omega

theorem loop3026 (E : Env) (cf : CallF) (m : Nat) (hm : 10 < m) (h46 : Has E 59 S46) (h58 : E.pure 68 = some F58) (h43 : Has E 67 S1143) (xs : List SV) (hxl : xs.length < 100000000) :
    ∀ (rest : List RowD) (pre : List SV) (out : List UInt8) (bx : List Box) (i k : Nat), xs = pre ++ rowsSV rest → i = pre.length → (∀ r ∈ rest, wlOk r = true ∧ r.fits3) → out.length + rest.length * 1000 < 1000000000000000000 → rest.length < k →
      ∃ bx', roundsA (evCA E cf m b3026_1) k (st3026 xs out i bx) = some (.exit 0, { nt := 61, tm := [(4, .sv (.str (out ++ (rest.map fun r => wlBody r ++ [10]).flatten)))], lz := none, bx := bx', df := [] }) := by
  intro rest
  induction rest with
  | nil =>
    intro pre out bx i k hsp hi _ _ hk
    obtain ⟨k, rfl⟩ : ∃ k', k = k' + 1 := ⟨k - 1, by omega⟩
    have hlt : ¬ (i < xs.length) := by rw [hsp, hi]; simp [rowsSV]
    refine ⟨bx, roundsA_out ?_ (by simp)⟩
    simp [st3026, b3026_1, hlt]
  | cons r rest ih =>
    intro pre out bx i k hsp hi hr ho hk
    obtain ⟨k, rfl⟩ : ∃ k', k = k' + 1 := ⟨k - 1, by omega⟩
    have hlt : i < xs.length := by rw [hsp, hi]; simp [rowsSV]
    obtain ⟨n0, n1, n2, n3, n4, n5, n6, n7, n8, n9, hu⟩ := wlOk_spec (hr r (by simp)).1
    have hlen := wlBody_len hu
    have hN := hu.hN
    have hS := hu.hS
    have hc : ∀ h : i < xs.length, xs[i]'h = .agg [.str r.name, .sl (u64s [n0, n1, n2, n3, n4, n5, n6, n7, n8, n9]), .sl []] := by subst hi; subst hsp; simp [rowsSV, RowD.sv, hN, hS, strs]
    simp only [List.length_cons, Nat.add_mul, Nat.one_mul] at ho
    have hst := step3026 E cf m hm h46 h58 h43 xs r (hr r (by simp)).2 n0 n1 n2 n3 n4 n5 n6 n7 n8 n9 hu out (by omega) i hlt (by omega) hc bx
    obtain ⟨bx', he⟩ := ih (pre ++ [r.sv]) (out ++ (wlBody r ++ [10])) (bx ++ [rowBox r]) (i + 1) k (by rw [hsp]; simp [rowsSV]) (by simp [hi]) (fun q hq => hr q (by simp [hq])) (by rw [List.length_append]; omega) (by simp at hk; omega)
    refine ⟨bx', ?_⟩
    rw [roundsA_step hst, he]
    simp

def S3026 (F : List SV → Option AV) : Prop := SPrintG wlAll wlText F

theorem ev3026 (E : Env) (h : E.code 26 = some c3026) (h66 : Has E 66 S3066) (h46 : Has E 59 S46) (h58 : E.pure 68 = some F58) (h43 : Has E 67 S1143) : S3026 (autoF E 26) := by
  obtain ⟨F, hp, hF⟩ := h66
  intro l hl
  have hF1 := hF l hl
  have hrl : (rowsSV l).length = l.length := by simp [rowsSV]
  refine autoA_sv (n := l.length + 12) ?_ rfl
  unfold evPA
  simp only [h]
  cases hv : wlAll l with
  | false =>
    rw [hv] at hF1
    rw [if_neg (by simp)]
    generalize rowsSV l = R at *
    simp [c3026, hp, hF1]
  | true =>
    rw [hv] at hF1
    rw [if_pos rfl]
    obtain ⟨bx', he⟩ := loop3026 E (evF E (l.length + 12)) (l.length + 12) (by omega) h46 h58 h43 (rowsSV l) (by rw [hrl]; exact hl.1) l [] wlHead [] 0 (l.length + 12) rfl rfl (fun r hr => ⟨List.all_eq_true.1 hv r hr, hl.2 r hr⟩) (by have := hl.1; rw [wlHead_len]; omega) (by omega)
    have hT : wlHead ++ (l.map fun r => wlBody r ++ [10]).flatten = wlText l := rfl
    rw [hT] at he
    simp only [st3026, Int.ofNat_zero, Int.natCast_zero, wlHead, wlHeadL1, wlHeadL2, List.cons_append, List.nil_append] at he
    generalize wlText l = T at *
    generalize rowsSV l = R at *
    simp [c3026, hp, hF1, he]

end Go.Ev

set_option linter.unusedSimpArgs false
set_option linter.unusedVariables false
namespace Go.Ev
open Go.Proofs

/-- What the reference reads of a text as a number with a sign. -/
def S112w (F : List SV → Option AV) : Prop := ∀ s : List UInt8, s.length < 100000000 → ∃ (v : Int) (ok : Bool), F [.str s] = some (.sv (.tup [.int .i64 v, .bool ok])) ∧ -9223372036854775808 ≤ v ∧ v < 9223372036854775808 ∧ (sgnV s = if ok = true ∧ sdecS v = s then some v else none)

theorem ev112w (E : Env) (h : E.code 82 = some c112) (h30 : E.pure 43 = some F30) (h81 : E.pure 109 = some F81) : S112w (autoF E 82) := by
  intro s hs
  have auto : ∀ l, evP E 1 82 [.str s] = some (.sv (.tup l)) → autoF E 82 [.str s] = some (.sv (.tup l)) := fun l hl => autoF_sv hl rfl
  cases s with
  | nil =>
    have hF81 := F81_eq [] (by simp)
    have hF30 : F30 [.str [], .str [45]] = some (.sv (.bool false)) := rfl
    have w0 : IntKind.i64.wrap 0 = 0 := by decide
    refine ⟨0, false, auto _ ?_, by omega, by omega, by simp [sgnV]⟩
    unfold evP
    simp only [h]
    simp only [numV] at hF81
    simp [c112, List.replicate, h30, hF30, h81, hF81, w0]
  | cons c t =>
    simp only [List.length_cons] at hs
    by_cases hc : c.toNat = 45
    · have hev := ev112 E h h30 h81 c hc t (by omega) 1
      unfold sgnV
      simp only [hc, if_true]
      cases hn : negV t with
      | some m =>
        rw [hn] at hev
        have := negV_le hn
        exact ⟨_, _, auto _ hev, by omega, by omega, by simp⟩
      | none =>
        rw [hn] at hev
        refine ⟨0, false, auto _ ?_, by omega, by omega, by simp⟩
        cases hv : numV 10 0 t with
        | none => rw [hv] at hev; exact hev
        | some m => rw [hv] at hev; simp only [ite_self] at hev; exact hev
    · have hc8 : c ≠ 45 := fun he => hc (by rw [he]; rfl)
      have hF30 : F30 [.str (c :: t), .str [45]] = some (.sv (.bool false)) := by simp [F30, hc8]
      have hF81 := F81_eq (c :: t) (by simp; omega)
      have hne : ((c :: t) == ([] : List UInt8)) = false := rfl
      unfold sgnV
      simp only [hc, if_false]
      cases hv : numV 10 0 (c :: t) with
      | none =>
        rw [hv] at hF81
        have w0 : IntKind.i64.wrap 0 = 0 := by decide
        refine ⟨0, false, auto _ ?_, by omega, by omega, by simp⟩
        unfold evP
        simp only [h]
        simp only at hF81
        simp [c112, List.replicate, h30, hF30, h81, hF81, w0]
      | some m =>
        rw [hv, hne] at hF81
        have hm := numV_lt (by omega) (c :: t) 0 m (by omega) hv
        obtain ⟨r1, r2⟩ := i64_range m
        have hw : IntKind.i64.wrap (m : Int) = i64 m := rfl
        refine ⟨i64 m, decide (m < 9223372036854775808), auto _ ?_, r1, r2, ?_⟩
        · unfold evP
          simp only [h]
          simp only [Bool.not_false] at hF81
          generalize i64 m = v at *
          by_cases hlt : m < 9223372036854775808
          · have e : (m : Int) < 9223372036854775808 := by omega
            simp [c112, List.replicate, h30, hF30, h81, hF81, hw, e, hlt]
          · have e : ¬ (m : Int) < 9223372036854775808 := by omega
            simp [c112, List.replicate, h30, hF30, h81, hF81, hw, e, hlt]
        · by_cases hlt : m < 9223372036854775808
          · rw [i64_small hlt]
            simp [hlt]
          · simp [hlt]

theorem u64n_cast (v : Int) : ((u64n v : Nat) : Int) = IntKind.u64.wrap v := by
  unfold u64n
  rw [IntKind.wrap_u64]; omega

def wlCell (i : Nat) (x : List UInt8) : Option Nat := if i < 3 then (if endsB 46 x = true then (sgnV (x.take (x.length - 1))).map u64n else none) else (sgnV x).map u64n

theorem wlCells_cons (i : Nat) (x : List UInt8) (l : List (List UInt8)) : wlCells i (x :: l) = match wlCell i x with
    | some n => (match wlCells (i + 1) l with
      | some ns => some (n :: ns)
      | none => none)
    | none => none := by
  conv => lhs; unfold wlCells
  unfold wlCell
  by_cases hi : i < 3
  · simp only [hi, if_true]
    by_cases he : endsB 46 x = true
    · simp only [he, if_true]
      cases sgnV (x.take (x.length - 1)) <;> rfl
    · simp only [he]; rfl
  · simp only [hi, if_false]
    cases sgnV x <;> rfl

def bad3029 (bx : List Box) : SA := { nt := 124, tm := [(4, .sv (.int .i64 2)), (3, .sv (.bool false)), (2, .sv .nilS)], lz := none, bx := bx, df := [] }
def st3029 (xs acc : List SV) (i : Nat) (bx : List Box) : SA := { nt := 124, tm := [(28, .sv (.int .i64 i)), (27, .sv (.int .i64 xs.length)), (26, .sv (.sl xs)), (5, accA 53 acc)], lz := none, bx := bx, df := [] }
def bxN (nm : List UInt8) (y : SV) (ys : List SV) : Box := .live [.sv (.str nm), .own 34 (y :: ys), .sv .nilS]
def stI3029 (xs acc fs : List SV) (i : Nat) (bx : List Box) (nm : List UInt8) (y : SV) (ys : List SV) (j : Nat) : SA := { nt := 124, tm := [(79, .sv (.int .i64 j)), (78, .sv (.int .i64 fs.length)), (77, .sv (.sl fs)), (28, .sv (.int .i64 i)), (27, .sv (.int .i64 xs.length)), (26, .sv (.sl xs)), (9, .ptr bx.length 0), (5, accA 53 acc)], lz := none, bx := bx ++ [bxN nm y ys], df := [] }
def stX3029 (xs acc : List SV) (i : Nat) (bx : List Box) (nm : List UInt8) (y : SV) (ys : List SV) : SA := { nt := 124, tm := [(28, .sv (.int .i64 i)), (27, .sv (.int .i64 xs.length)), (26, .sv (.sl xs)), (9, .ptr bx.length 0), (5, accA 53 acc)], lz := none, bx := bx ++ [bxN nm y ys], df := [] }

theorem snoc_setw (B : List Box) (x y : Box) : (B ++ [x]).set B.length y = B ++ [y] := by
  rw [List.set_append_right _ _ (by omega)]; simp

set_option maxHeartbeats 8000000 in
theorem stepI3029 (E : Env) (cf : CallF) (m : Nat) (h76 : E.pure 80 = some F76) (h12 : Has E 82 S112w) (h58 : E.pure 68 = some F58) (xs acc fs : List SV) (i : Nat) (bx : List Box) (nm : List UInt8) (y : SV) (ys : List SV) (hyl : ys.length < 1000) (j : Nat) (hj : j < fs.length) (hfl : fs.length < 1000) (x : List UInt8) (hxl : x.length < 1000000) (hc : ∀ h : j < fs.length, fs[j]'h = .str x) :
    evCA E cf m b3029_0 (stI3029 xs acc fs i bx nm y ys j) = match wlCell j x with
      | some n => some (.normal, stI3029 xs acc fs i bx nm y (ys ++ [.int .u64 (n : Int)]) (j + 1))
      | none => some (.ret, bad3029 (bx ++ [bxN nm y ys])) := by
  obtain ⟨F, hp, hF⟩ := h12
  have hw : IntKind.i64.wrap ((j : Int) + 1) = ((j + 1 : Nat) : Int) := by rw [IntKind.wrap_i64]; omega
  have hl1 : (ys.length + 1 + 1) * 8 ≤ 140737488355328 := by omega
  have hl2 : ys.length + 1 + 1 ≤ 140737488355328 := by omega
  unfold wlCell
  by_cases h3 : j < 3
  · have e3 : (j : Int) < 3 := by omega
    rw [if_pos h3]
    have hE : F76 [.str x, .str [46]] = some (.sv (.bool (endsB 46 x))) := by
      show onlyIf _ _ = _
      rw [onlyIf_pos (by omega)]
      unfold endsB; simp
    cases he : endsB 46 x with
    | false =>
      rw [he] at hE
      simp [stI3029, bad3029, bxN, b3029_0, hj, hc, e3, h3, h76, hE]
    | true =>
      rw [he] at hE
      rw [if_pos rfl]
      have hx1 : 1 ≤ x.length := by
        unfold endsB at he
        simp only [Bool.and_eq_true, decide_eq_true_eq] at he
        exact he.1
      have hwl : IntKind.i64.wrap ((x.length : Int) - 1) = ((x.length - 1 : Nat) : Int) := by rw [IntKind.wrap_i64]; omega
      have hle : x.length - 1 ≤ x.length := by omega
      obtain ⟨v, ok, hFv, r1, r2, hs⟩ := hF (x.take (x.length - 1)) (by rw [List.length_take]; omega)
      have e58 : F58 [.int .i64 v] = some (.sv (.str (sdecS v))) := onlyIf_pos ⟨r1, r2⟩
      have hcast := u64n_cast v
      rw [hs]
      generalize x.length - 1 = L at *
      generalize hX : x.take L = X at *
      generalize sdecS v = D at *
      cases ok with
      | false =>
        simp [stI3029, bad3029, bxN, b3029_0, hj, hc, e3, h3, h76, hE, hwl, hle, hX, hp, hFv]
      | true =>
        by_cases hD : D = X
        · subst hD
          simp [stI3029, bad3029, bxN, b3029_0, hj, hc, e3, h3, h76, hE, hwl, hle, hX, hp, hFv, h58, e58, ← hcast, snoc_setw, hl1, hl2, hw]
        · have hDb : (D != X) = true := by simpa using hD
          have hDc : (D == X) = false := by simpa using hD
          simp [stI3029, bad3029, bxN, b3029_0, hj, hc, e3, h3, h76, hE, hwl, hle, hX, hp, hFv, h58, e58, hD, hDb, hDc]
  · have e3 : ¬ (j : Int) < 3 := by omega
    rw [if_neg h3]
    obtain ⟨v, ok, hFv, r1, r2, hs⟩ := hF x (by omega)
    have e58 : F58 [.int .i64 v] = some (.sv (.str (sdecS v))) := onlyIf_pos ⟨r1, r2⟩
    have hcast := u64n_cast v
    rw [hs]
    generalize sdecS v = D at *
    cases ok with
    | false =>
      simp [stI3029, bad3029, bxN, b3029_0, hj, hc, e3, h3, hp, hFv]
    | true =>
      by_cases hD : D = x
      · subst hD
        simp [stI3029, bad3029, bxN, b3029_0, hj, hc, e3, h3, hp, hFv, h58, e58, ← hcast, snoc_setw, hl1, hl2, hw]
      · have hDb : (D != x) = true := by simpa using hD
        have hDc : (D == x) = false := by simpa using hD
        simp [stI3029, bad3029, bxN, b3029_0, hj, hc, e3, h3, hp, hFv, h58, e58, hD, hDb, hDc]

theorem loopI3029 (E : Env) (cf : CallF) (m : Nat) (h76 : E.pure 80 = some F76) (h12 : Has E 82 S112w) (h58 : E.pure 68 = some F58) (xs acc fs : List SV) (hfl : fs.length < 1000) (i : Nat) (bx : List Box) (nm : List UInt8) (y : SV) :
    ∀ (rest : List (List UInt8)) (pre ys : List SV) (j k : Nat), fs = pre ++ strs rest → j = pre.length → ys.length = j → (∀ x ∈ rest, x.length < 1000000) → rest.length < k →
      ∃ b, roundsA (evCA E cf m b3029_0) k (stI3029 xs acc fs i bx nm y ys j) = match wlCells j rest with
        | some ns => some (.exit 2, stX3029 xs acc i bx nm y (ys ++ u64s ns))
        | none => some (.ret, bad3029 (bx ++ [b])) := by
  intro rest
  induction rest with
  | nil =>
    intro pre ys j k hsp hj _ _ hk
    obtain ⟨k, rfl⟩ : ∃ k', k = k' + 1 := ⟨k - 1, by omega⟩
    have hlt : ¬ (j < fs.length) := by rw [hsp, hj]; simp [strs]
    refine ⟨.frz [], ?_⟩
    simp only [wlCells, u64s, List.map_nil, List.append_nil]
    refine roundsA_out ?_ (by simp)
    simp [b3029_0, stI3029, stX3029, hlt]
  | cons x rest ih =>
    intro pre ys j k hsp hj hyl hr hk
    obtain ⟨k, rfl⟩ : ∃ k', k = k' + 1 := ⟨k - 1, by omega⟩
    have hlt : j < fs.length := by rw [hsp, hj]; simp [strs]
    have hc : ∀ h : j < fs.length, fs[j]'h = .str x := by subst hj; subst hsp; simp [strs]
    have hst := stepI3029 E cf m h76 h12 h58 xs acc fs i bx nm y ys (by omega) j hlt hfl x (hr x (by simp)) hc
    rw [wlCells_cons]
    cases hv : wlCell j x with
    | none =>
      rw [hv] at hst
      exact ⟨_, roundsA_out hst (by simp)⟩
    | some n =>
      rw [hv] at hst
      obtain ⟨b, he⟩ := ih (pre ++ [.str x]) (ys ++ [.int .u64 (n : Int)]) (j + 1) k (by rw [hsp]; simp [strs]) (by simp [hj]) (by simp [hyl]) (fun q hq => hr q (by simp [hq])) (by simp at hk; omega)
      refine ⟨b, ?_⟩
      rw [roundsA_step hst, he]
      cases wlCells (j + 1) rest with
      | none => rfl
      | some ns => simp [u64s]

theorem S123_okw {F : List SV → Option AV} (h : S123 F) (s : List UInt8) (hs : s.length < 9223372036854775807) : ∃ v : Int, F [.str s, .int .u64 16] = some (.sv (.tup [.int .u64 v, .bool (hexV s).isSome])) ∧ ∀ n, hexV s = some n → v = (n : Int) := by
  have h1 := h s hs
  cases hv : hexV s with
  | some m => rw [hv] at h1; exact ⟨_, h1, fun n hn => by simp only [Option.some.injEq] at hn; rw [hn]⟩
  | none =>
    rw [hv] at h1
    cases hn : numV 16 0 s with
    | some m => rw [hn] at h1; exact ⟨_, h1, fun n hn => by cases hn⟩
    | none => rw [hn] at h1; exact ⟨_, h1, fun n hn => by cases hn⟩

set_option maxRecDepth 100000 in
set_option maxHeartbeats 16000000 in
theorem step3029 (E : Env) (cf : CallF) (m : Nat) (hm : 12 < m) (h52 : E.pure 79 = some F52) (h76 : E.pure 80 = some F76) (h23 : Has E 81 S123) (h12 : Has E 82 S112w) (h58 : E.pure 68 = some F58) (xs acc : List SV) (ha : acc.length < 1000000) (i : Nat) (hlt : i < xs.length) (hxl : xs.length < 1000000) (c : List UInt8) (hcl : c.length < 1000000) (hc : ∀ h : i < xs.length, xs[i]'h = .str c) (bx : List Box) :
    ∃ bx', evCA E cf m b3029_1 (st3029 xs acc i bx) = match wlLineV (fieldsL c) with
      | some r => some (.normal, st3029 xs (acc ++ [r.sv]) (i + 1) bx')
      | none => some (.ret, bad3029 bx') := by
  have hF := F52_eq c (by omega)
  obtain ⟨_, hsh1, hsh2⟩ := fieldsV_shape c
  have hw : IntKind.i64.wrap ((i : Int) + 1) = ((i + 1 : Nat) : Int) := by rw [IntKind.wrap_i64]; omega
  have hl1 : (acc.length + 1) * 64 ≤ 140737488355328 := by omega
  have hl2 : acc.length + 1 ≤ 140737488355328 := by omega
  by_cases hlen : (fieldsL c).length = 11
  rotate_left
  · have hn : wlLineV (fieldsL c) = none := by
      unfold wlLineV
      match fieldsL c, hlen with
      | [], _ => rfl
      | [_], _ => rfl
      | g0 :: g1 :: g, hlen =>
        simp only [List.length_cons] at hlen
        simp only
        rw [if_neg (fun h => hlen (by rw [h.1]))]
    rw [hn]
    have hsl : (strs (fieldsL c)).length = (fieldsL c).length := strs_length _
    have hb : (((fieldsL c).length : Int) != 11) = true := by simp; omega
    refine ⟨bx, ?_⟩
    generalize strs (fieldsL c) = fs at hF hsl
    simp [st3029, bad3029, b3029_1, hlt, hc, h52, hF, hsl, hb]
  generalize fieldsL c = f at *
  have hgl : ∀ x ∈ f, x.length < 1000000 := fun x hx => by have := hsh2 x hx; omega
  match f, hlen with
  | g0 :: g1 :: g, hlen =>
    simp only [List.length_cons] at hlen
    have hg9 : g.length = 9 := by omega
    have z0 := hgl g0 (by simp)
    have z1 := hgl g1 (by simp)
    have hE : F76 [.str g0, .str [58]] = some (.sv (.bool (endsB 58 g0))) := by
      show onlyIf _ _ = _
      rw [onlyIf_pos (by omega)]
      unfold endsB; simp
    obtain ⟨F2, hp2, hF2⟩ := h23
    obtain ⟨v, e23, hvn⟩ := S123_okw hF2 g1 (by omega)
    simp only [strs, List.map_cons] at hF
    rw [show g.map SV.str = strs g from rfl] at hF
    have hgs : (strs g).length = 9 := by rw [strs_length, hg9]
    have hb1 : ((((strs g).length : Nat) : Int) + 1 + 1 != 11) = false := by rw [hgs]; rfl
    unfold wlLineV
    simp only [hg9, true_and]
    cases he : endsB 58 g0 with
    | false =>
      rw [he] at hE
      refine ⟨bx, ?_⟩
      simp only [Bool.false_eq_true, if_false]
      generalize strs g = G at *
      simp [st3029, bad3029, b3029_1, hlt, hc, h52, hF, hgs, h76, hE]
    | true =>
      rw [he] at hE
      simp only [if_true]
      have h0l : 1 ≤ g0.length := by
        unfold endsB at he
        simp only [Bool.and_eq_true, decide_eq_true_eq] at he
        exact he.1
      have hw0 : IntKind.i64.wrap ((g0.length : Int) - 1) = ((g0.length - 1 : Nat) : Int) := by rw [IntKind.wrap_i64]; omega
      have hle0 : g0.length - 1 ≤ g0.length := by omega
      cases hx : hexV g1 with
      | none =>
        rw [hx] at e23
        refine ⟨bx ++ [.live [.sv (.str (g0.take (g0.length - 1))), .sv .nilS, .sv .nilS]], ?_⟩
        simp only [Option.isSome_none] at e23
        generalize g0.length - 1 = L at *
        generalize strs g = G at *
        simp [st3029, bad3029, b3029_1, hlt, hc, h52, hF, hgs, h76, hE, hw0, hle0, hp2, e23]
      | some n =>
        rw [hx] at e23
        have hv := hvn n hx
        subst hv
        simp only [Option.isSome_some] at e23
        have hb4 : ((g1.length : Int) != 4) = !decide (g1.length = 4) := by rw [Bool.eq_iff_iff]; simp; omega
        by_cases h4 : g1.length = 4
        rotate_left
        · refine ⟨bx ++ [.live [.sv (.str (g0.take (g0.length - 1))), .sv .nilS, .sv .nilS]], ?_⟩
          simp only [h4, if_false]
          generalize g0.length - 1 = L at *
          generalize strs g = G at *
          simp [st3029, bad3029, b3029_1, hlt, hc, h52, hF, hgs, h76, hE, hw0, hle0, hp2, e23, hb4, h4]
        · simp only [h4, if_true]
          obtain ⟨b, hin⟩ := loopI3029 E cf m h76 h12 h58 xs acc (strs g) (by rw [hgs]; omega) i bx (g0.take (g0.length - 1)) (.int .u64 (n : Int)) g [] [] 0 m rfl rfl rfl (fun x hx => hgl x (by simp [hx])) (by omega)
          have hu : (∀ x : SV, x ∈ strs g → x.cells.length = 1) = True := eq_true (fun x hx => by
            obtain ⟨y, _, rfl⟩ := List.mem_map.1 hx
            rfl)
          have htk : (strs g).take 9 = strs g := List.take_of_length_le (Nat.le_of_eq hgs)
          simp only [SV.cells] at hu
          generalize g0.length - 1 = L at *
          cases hcs : wlCells 0 g with
          | none =>
            rw [hcs] at hin
            refine ⟨bx ++ [b], ?_⟩
            generalize strs g = G at *
            simp only [stI3029, bad3029, bxN, hgs, Int.ofNat_zero, Int.natCast_zero] at hin
            rw [show ((9 : Nat) : Int) = 9 from rfl] at hin
            simp [st3029, bad3029, b3029_1, hlt, hc, h52, hF, hgs, h76, hE, hw0, hle0, hp2, e23, hb4, h4, snoc_setw, hu, htk, hin]
          | some ns =>
            rw [hcs] at hin
            refine ⟨bx ++ [bxN (g0.take L) (.int .u64 (n : Int)) (u64s ns)], ?_⟩
            have hrs : RowD.sv ⟨g0.take L, n :: ns, []⟩ = .agg [.str (g0.take L), .sl (.int .u64 (n : Int) :: u64s ns), .sl []] := rfl
            simp only
            rw [hrs]
            generalize strs g = G at *
            simp only [stI3029, stX3029, bxN, hgs, Int.ofNat_zero, Int.natCast_zero, List.nil_append] at hin ⊢
            rw [show ((9 : Nat) : Int) = 9 from rfl] at hin
            cases acc with
            | nil =>
              simp only [accA] at hin
              simp [st3029, b3029_1, hlt, hc, h52, hF, hgs, h76, hE, hw0, hle0, hp2, e23, hb4, h4, snoc_setw, hu, htk, hin, hw, accA]
            | cons y ys =>
              simp only [List.length_cons] at hl1 hl2
              simp only [accA] at hin
              simp [st3029, b3029_1, hlt, hc, h52, hF, hgs, h76, hE, hw0, hle0, hp2, e23, hb4, h4, snoc_setw, hu, htk, hin, hw, accA, hl1, hl2]

theorem loop3029 (E : Env) (cf : CallF) (m : Nat) (hm : 12 < m) (h52 : E.pure 79 = some F52) (h76 : E.pure 80 = some F76) (h23 : Has E 81 S123) (h12 : Has E 82 S112w) (h58 : E.pure 68 = some F58) (xs : List SV) (hxl : xs.length < 1000000) :
    ∀ (rest : List (List UInt8)) (pre acc : List SV) (i k : Nat) (bx : List Box), xs = pre ++ strs rest → i = pre.length → acc.length = i → (∀ x ∈ rest, x.length < 1000000) → rest.length < k →
      ∃ bx', roundsA (evCA E cf m b3029_1) k (st3029 xs acc i bx) =
        match wlTabV rest with
        | some rs => some (.exit 0, { nt := 124, tm := [(5, accA 53 (acc ++ rowsSV rs))], lz := none, bx := bx', df := [] })
        | none => some (.ret, bad3029 bx') := by
  intro rest
  induction rest with
  | nil =>
    intro pre acc i k bx hsp hi _ _ hk
    obtain ⟨k, rfl⟩ : ∃ k', k = k' + 1 := ⟨k - 1, by omega⟩
    have hlt : ¬ (i < xs.length) := by rw [hsp, hi]; simp [strs]
    refine ⟨bx, roundsA_out ?_ (by simp [wlTabV])⟩
    simp [b3029_1, st3029, hlt, wlTabV, rowsSV]
  | cons c rest ih =>
    intro pre acc i k bx hsp hi ha hr hk
    obtain ⟨k, rfl⟩ : ∃ k', k = k' + 1 := ⟨k - 1, by omega⟩
    have hlt : i < xs.length := by rw [hsp, hi]; simp [strs]
    have hc : ∀ h : i < xs.length, xs[i]'h = .str c := by subst hi; subst hsp; simp [strs]
    obtain ⟨bx1, hst⟩ := step3029 E cf m hm h52 h76 h23 h12 h58 xs acc (by omega) i hlt (by omega) c (hr c (by simp)) hc bx
    simp only [wlTabV]
    cases hv : wlLineV (fieldsL c) with
    | none =>
      rw [hv] at hst
      exact ⟨bx1, roundsA_out hst (by simp)⟩
    | some r =>
      rw [hv] at hst
      obtain ⟨bx', he⟩ := ih (pre ++ [.str c]) (acc ++ [r.sv]) (i + 1) k bx1 (by rw [hsp]; simp [strs]) (by simp [hi]) (by simp [ha]) (fun x hx => hr x (by simp [hx])) (by simp at hk; omega)
      refine ⟨bx', ?_⟩
      rw [roundsA_step hst, he]
      cases wlTabV rest with
      | none => rfl
      | some rs => simp [rowsSV]

def S3029 (F : List SV → Option AV) : Prop := SReadG wlRd wlAll F

set_option maxRecDepth 100000 in
set_option maxHeartbeats 4000000 in
theorem ev3029 (E : Env) (h : E.code 29 = some c3029) (h78 : E.pure 78 = some F78) (h30 : E.pure 43 = some F30) (h28 : E.pure 41 = some F28) (h52 : E.pure 79 = some F52) (h76 : E.pure 80 = some F76) (h23 : Has E 81 S123) (h12 : Has E 82 S112w) (h58 : E.pure 68 = some F58) (h66 : Has E 66 S3066) (h50 : E.pure 83 = some F1050) : S3029 (autoF E 29) := by
  obtain ⟨FF, hpF, hFF⟩ := h66
  intro s hs
  have e78 := F78_eq s (by omega)
  have e30 : F30 [.str s, .str wlHead] = some (.sv (.bool (decide (wlHead.length ≤ s.length) && (s.take wlHead.length == wlHead)))) := rfl
  have e28 := F28_eq (s.drop 162) (by simp; omega)
  have hh : wlHead.length = 162 := wlHead_len
  rw [hh] at e30
  have bad : ∀ l b, (∃ n, evPA E n 29 [.str s] = some (.sv (.tup [.sl l, .bool b, .int .i64 2]))) → (∃ rs, wlRd s rs ∧ rowsFit3 rs ∧ wlAll rs = true ∧ autoF E 29 [.str s] = some (.sv (.tup [.sl (rowsSV rs), .bool true, .int .i64 1]))) ∨ ∃ l b, autoF E 29 [.str s] = some (.sv (.tup [.sl l, .bool b, .int .i64 2])) := fun l b ⟨n, hn⟩ => .inr ⟨l, b, autoA_sv hn rfl⟩
  by_cases hp : s.all plainC = true
  rotate_left
  · have hp' : s.all plainC = false := by simpa using hp
    rw [hp'] at e78
    refine bad [] false ⟨1, ?_⟩
    unfold evPA
    simp only [h]
    simp [c3029, h78, e78]
  rw [hp] at e78
  by_cases ht : s.take 162 = wlHead
  rotate_left
  · have e : (decide (162 ≤ s.length) && (s.take 162 == wlHead)) = false := by simp [ht]
    rw [e] at e30
    simp only [wlHead, wlHeadL1, wlHeadL2, List.cons_append, List.nil_append] at e30
    refine bad [] false ⟨1, ?_⟩
    unfold evPA
    simp only [h]
    simp [c3029, h78, e78, h30, e30]
  have hl : 162 ≤ s.length := by
    have := congrArg List.length ht
    rw [List.length_take, hh] at this
    omega
  have e : (decide (162 ≤ s.length) && (s.take 162 == wlHead)) = true := by simp [ht, hl]
  rw [e] at e30
  simp only [wlHead, wlHeadL1, wlHeadL2, List.cons_append, List.nil_append] at e30
  have hdl : (s.drop 162).length ≤ 40000 := by simp; omega
  have hdl2 : (s.drop 162).length ≤ s.length := by simp
  have hsub : (162 : Int) ≤ (s.length : Int) := by omega
  have hrd : wlRead s = match wlTabV (linesL (s.drop 162)) with
    | some rs => if rs.all wlOk = true then some rs else none
    | none => none := by unfold wlRead; rw [if_pos ⟨hp, ht⟩]; rfl
  generalize ht' : s.drop 162 = t at *
  obtain ⟨_, k1, k2⟩ := linesV_shape t
  obtain ⟨bx', hlp⟩ := loop3029 E (evF E (s.length + 14)) (s.length + 14) (by omega) h52 h76 h23 h12 h58 (strs (linesL t)) (by rw [strs_length]; omega) (linesL t) [] [] 0 (s.length + 14) [] rfl rfl rfl (fun x hx => by have := k2 x hx; omega) (by omega)
  have hfit := @wlRows_fit t
  generalize linesL t = ls at *
  simp only [st3029, accA, List.nil_append] at hlp
  have hcast : ((0 : Nat) : Int) = 0 := rfl
  rw [hcast] at hlp
  cases hv : wlTabV ls with
  | none =>
    rw [hv] at hlp
    simp only [bad3029] at hlp
    refine bad [] false ⟨s.length + 14, ?_⟩
    unfold evPA
    simp only [h]
    simp [c3029, h78, e78, h30, e30, hsub, ht', h28, e28, hlp]
  | some rs =>
    rw [hv] at hlp hrd
    obtain ⟨f1, f2⟩ := hfit hv hdl
    have hF := hFF rs f2
    simp only at hlp hrd
    have hall : ∀ q : Bool, wlAll rs = q → autoF E 29 [.str s] = some (.sv (.tup [.sl (rowsSV rs), .bool true, .int .i64 (if q then 1 else 2)])) := by
      intro q hq
      rw [hq] at hF
      refine autoA_sv (n := s.length + 14) ?_ rfl
      unfold evPA
      simp only [h]
      generalize rowsSV rs = R at *
      cases R with
      | nil =>
        simp only [accA] at hlp
        cases q <;> simp [c3029, h78, e78, h30, e30, hsub, ht', h28, e28, hlp, hpF, hF, h50, F1050]
      | cons y ys =>
        simp only [accA] at hlp
        cases q <;> simp [c3029, h78, e78, h30, e30, hsub, ht', h28, e28, hlp, hpF, hF, h50, F1050]
    cases ha : wlAll rs with
    | false => exact .inr ⟨_, _, hall false ha⟩
    | true =>
      refine .inl ⟨rs, ?_, f2, ha, hall true ha⟩
      unfold wlRd
      rw [hrd, if_pos (show rs.all wlOk = true from ha)]

end Go.Ev

set_option linter.unusedSimpArgs false
set_option linter.unusedVariables false
namespace Go.Ev
open Go.Proofs

/-! ### Small letters -/

def S135 (F : List SV → Option AV) : Prop := ∀ c : UInt8, 10 ≤ digitV c.toNat → digitV c.toNat < 16 → F [.int .u8 (c.toNat : Int)] = some (.sv (.int .u8 ((digitV c.toNat + 87 : Nat) : Int)))

theorem hexLetter {c : Nat} (h : 10 ≤ digitV c) (h2 : digitV c < 16) : c = 65 ∨ c = 66 ∨ c = 67 ∨ c = 68 ∨ c = 69 ∨ c = 70 ∨ c = 97 ∨ c = 98 ∨ c = 99 ∨ c = 100 ∨ c = 101 ∨ c = 102 := by
  unfold digitV at h h2
  (repeat' split at h) <;> (repeat' split at h2) <;> omega

theorem ev135 (E : Env) (h : E.code 201 = some c135) : S135 (autoF E 201) := by
  intro c h1 h2
  refine autoF_sv (n := 1) ?_ rfl
  unfold evP
  simp only [h]
  generalize c.toNat = k at h1 h2 ⊢
  rcases hexLetter h1 h2 with rfl | rfl | rfl | rfl | rfl | rfl | rfl | rfl | rfl | rfl | rfl | rfl <;> kernel_rfl

/-! ### Numbers -/

set_option maxRecDepth 100000 in
set_option maxHeartbeats 4000000 in
theorem loop125b (E : Env) (cf : CallF) (b8 : Bool) (s0 s : List UInt8) (hs : s.length < 1000000000000) (m : Nat) :
    ∀ (rest pre : List UInt8) (a k : Nat), s = pre ++ rest → (∀ c ∈ rest, digC c = true) → digN a rest < 18446744073709551616 → rest.length < k →
      rounds (evC E cf m b125_0) k { tm := [.sv .undef, .sv (.int .i64 10)] ++ List.replicate 6 (.sv .undef) ++ [.sv (.bool b8), .sv (.str s0), .sv (.int .u64 1844674407370955162), .sv (.int .u64 18446744073709551615), .sv (.bool false), .sv (.int .u64 a)] ++ List.replicate 85 (.sv .undef) ++ [.sv (.sl (bytesSV s)), .sv (.int .i64 s.length), .sv (.int .i64 pre.length)] ++ List.replicate 70 (.sv .undef), lz := none, bx := [], df := [] } =
        some (.exit 3, { tm := List.replicate 9 (.sv .undef) ++ [.sv (.str s0), .sv .undef, .sv .undef, .sv (.bool false), .sv (.int .u64 (digN a rest : Nat))] ++ List.replicate 158 (.sv .undef), lz := none, bx := [], df := [] }) := by
  intro rest
  induction rest with
  | nil =>
    intro pre a k hsp hr ha hk
    obtain ⟨k, rfl⟩ : ∃ k', k = k' + 1 := ⟨k - 1, by omega⟩
    have hlt : ¬ (pre.length < s.length) := by rw [hsp]; simp
    refine rounds_out ?_ (by simp)
    simp [b125_0, List.replicate, hlt, digN_nil]
  | cons c rest ih =>
    intro pre a k hsp hr ha hk
    obtain ⟨k, rfl⟩ : ∃ k', k = k' + 1 := ⟨k - 1, by omega⟩
    have hlt : pre.length < s.length := by rw [hsp]; simp
    have hsl := congrArg List.length hsp
    simp only [List.length_append, List.length_cons] at hsl
    have hc : ∀ h : pre.length < (bytesSV s).length, (bytesSV s)[pre.length]'h = .int .u8 (c.toNat : Int) := by subst hsp; simp [bytesSV]
    have hw2 : IntKind.i64.wrap ((pre.length : Int) + 1) = ((pre ++ [c]).length : Int) := by rw [IntKind.wrap_i64]; simp; omega
    obtain ⟨d1, d2⟩ := digC_iff.1 (hr c (by simp))
    have hs8 : IntKind.u8.wrap ((c.toNat : Int) - 48) = ((dgt c : Nat) : Int) := by rw [IntKind.wrap_u8]; unfold dgt; omega
    have hd9 : dgt c ≤ 9 := by unfold dgt; omega
    have e95 : ((c.toNat : Int) == 95) = false := by rw [Bool.eq_false_iff]; simp; omega
    have e48 : (48 : Int) ≤ (c.toNat : Int) := by omega
    have e57 : (c.toNat : Int) ≤ 57 := by omega
    rw [digN_cons] at ha ⊢
    have hge := digN_ge rest (a * 10 + dgt c)
    generalize dgt c = d at *
    have h10 : ¬ (10 : Int) ≤ (d : Int) := by omega
    have hcut : ¬ (1844674407370955162 : Int) ≤ (a : Int) := by omega
    have hw8 : IntKind.u8.wrap 10 = 10 := by rw [IntKind.wrap_u8]; omega
    have hw64 : IntKind.u64.wrap 10 = 10 := by rw [IntKind.wrap_u64]; omega
    have hw3 : IntKind.u64.wrap (d : Int) = (d : Int) := by rw [IntKind.wrap_u64]; omega
    have hw4 : IntKind.u64.wrap ((a : Int) * 10) = ((a * 10 : Nat) : Int) := by rw [IntKind.wrap_u64]; omega
    have hw5 : IntKind.u64.wrap (((a * 10 : Nat) : Int) + (d : Int)) = ((a * 10 + d : Nat) : Int) := by rw [IntKind.wrap_u64]; omega
    have q1 : ¬ (((a * 10 + d : Nat) : Int) < ((a * 10 : Nat) : Int)) := by omega
    have q2 : ¬ ((18446744073709551615 : Int) < ((a * 10 + d : Nat) : Int)) := by omega
    have he := ih (pre ++ [c]) (a * 10 + d) k (by rw [hsp]; simp) (fun x hx => hr x (by simp [hx])) ha (by simp at hk; omega)
    rw [← he]
    refine rounds_step ?_
    generalize (a * 10 + d) = a2 at *
    generalize (a * 10) = a1 at *
    simp [b125_0, List.replicate, hlt, bytesSV_length, hc, hs8, e95, e48, e57, h10, hcut, hw8, hw64, hw2, hw3, hw4, hw5, q1, q2]

set_option maxRecDepth 100000 in
set_option maxHeartbeats 4000000 in
theorem loop125h (E : Env) (cf : CallF) (h135 : Has E 201 S135) (s0 s : List UInt8) (hs : s.length < 1000000000000) (m : Nat) :
    ∀ (rest pre : List UInt8) (a k : Nat), s = pre ++ rest → (∀ c ∈ rest, digitV c.toNat < 16) → hexN a rest < 18446744073709551616 → rest.length < k →
      rounds (evC E cf m b125_0) k { tm := [.sv .undef, .sv (.int .i64 16)] ++ List.replicate 6 (.sv .undef) ++ [.sv (.bool false), .sv (.str s0), .sv (.int .u64 1152921504606846976), .sv (.int .u64 18446744073709551615), .sv (.bool false), .sv (.int .u64 a)] ++ List.replicate 85 (.sv .undef) ++ [.sv (.sl (bytesSV s)), .sv (.int .i64 s.length), .sv (.int .i64 pre.length)] ++ List.replicate 70 (.sv .undef), lz := none, bx := [], df := [] } =
        some (.exit 3, { tm := List.replicate 9 (.sv .undef) ++ [.sv (.str s0), .sv .undef, .sv .undef, .sv (.bool false), .sv (.int .u64 (hexN a rest : Nat))] ++ List.replicate 158 (.sv .undef), lz := none, bx := [], df := [] }) := by
  obtain ⟨F, hp, hF⟩ := h135
  intro rest
  induction rest with
  | nil =>
    intro pre a k hsp hr ha hk
    obtain ⟨k, rfl⟩ : ∃ k', k = k' + 1 := ⟨k - 1, by omega⟩
    have hlt : ¬ (pre.length < s.length) := by rw [hsp]; simp
    refine rounds_out ?_ (by simp)
    simp [b125_0, List.replicate, hlt, hexN_nil]
  | cons c rest ih =>
    intro pre a k hsp hr ha hk
    obtain ⟨k, rfl⟩ : ∃ k', k = k' + 1 := ⟨k - 1, by omega⟩
    have hlt : pre.length < s.length := by rw [hsp]; simp
    have hsl := congrArg List.length hsp
    simp only [List.length_append, List.length_cons] at hsl
    have hc : ∀ h : pre.length < (bytesSV s).length, (bytesSV s)[pre.length]'h = .int .u8 (c.toNat : Int) := by subst hsp; simp [bytesSV]
    have hw2 : IntKind.i64.wrap ((pre.length : Int) + 1) = ((pre ++ [c]).length : Int) := by rw [IntKind.wrap_i64]; simp; omega
    have hd16 := hr c (by simp)
    have hFc := hF c
    rw [hexN_cons] at ha ⊢
    have hge := hexN_ge rest (a * 16 + digitV c.toNat)
    have h10 : ¬ (16 : Int) ≤ (digitV c.toNat : Int) := by omega
    have hcut : ¬ (1152921504606846976 : Int) ≤ (a : Int) := by omega
    have hw8 : IntKind.u8.wrap 16 = 16 := by rw [IntKind.wrap_u8]; omega
    have hw64 : IntKind.u64.wrap 16 = 16 := by rw [IntKind.wrap_u64]; omega
    have hw3 : IntKind.u64.wrap (digitV c.toNat : Int) = (digitV c.toNat : Int) := by rw [IntKind.wrap_u64]; omega
    have hw4 : IntKind.u64.wrap ((a : Int) * 16) = ((a * 16 : Nat) : Int) := by rw [IntKind.wrap_u64]; omega
    have hw5 : IntKind.u64.wrap (((a * 16 : Nat) : Int) + (digitV c.toNat : Int)) = ((a * 16 + digitV c.toNat : Nat) : Int) := by rw [IntKind.wrap_u64]; omega
    have q1 : ¬ (((a * 16 + digitV c.toNat : Nat) : Int) < ((a * 16 : Nat) : Int)) := by omega
    have q2 : ¬ ((18446744073709551615 : Int) < ((a * 16 + digitV c.toNat : Nat) : Int)) := by omega
    have he := ih (pre ++ [c]) (a * 16 + digitV c.toNat) k (by rw [hsp]; simp) (fun x hx => hr x (by simp [hx])) ha (by simp at hk; omega)
    rw [← he]
    refine rounds_step ?_
    by_cases hlet : 10 ≤ digitV c.toNat
    · have hFv := hFc hlet hd16
      have hl := hexLetter hlet hd16
      have e95 : ((c.toNat : Int) == 95) = false := by rw [Bool.eq_false_iff]; simp; omega
      have e48 : (48 : Int) ≤ (c.toNat : Int) := by omega
      have e57 : ¬ (c.toNat : Int) ≤ 57 := by omega
      have f1 : (97 : Int) ≤ ((digitV c.toNat + 87 : Nat) : Int) := by omega
      have f2 : ((digitV c.toNat + 87 : Nat) : Int) ≤ 122 := by omega
      have f3 : IntKind.u8.wrap (IntKind.u8.wrap (((digitV c.toNat + 87 : Nat) : Int) - 97) + 10) = (digitV c.toNat : Int) := by rw [IntKind.wrap_u8, IntKind.wrap_u8]; omega
      generalize digitV c.toNat = d at *
      generalize (a * 16 + d) = a2 at *
      generalize (a * 16) = a1 at *
      generalize ((d + 87 : Nat) : Int) = d87 at *
      simp [b125_0, List.replicate, hlt, bytesSV_length, hc, hp, hFv, e95, e48, e57, f1, f2, f3, h10, hcut, hw8, hw64, hw2, hw3, hw4, hw5, q1, q2]
    · have hl : 48 ≤ c.toNat ∧ c.toNat ≤ 57 ∧ digitV c.toNat = c.toNat - 48 := by
        unfold digitV at hlet hd16 ⊢
        (repeat' split at hlet) <;> (repeat' split at hd16) <;> (repeat' split) <;> omega
      have e95 : ((c.toNat : Int) == 95) = false := by rw [Bool.eq_false_iff]; simp; omega
      have e48 : (48 : Int) ≤ (c.toNat : Int) := by omega
      have e57 : (c.toNat : Int) ≤ 57 := by omega
      have hs8 : IntKind.u8.wrap ((c.toNat : Int) - 48) = (digitV c.toNat : Int) := by rw [IntKind.wrap_u8]; omega
      generalize digitV c.toNat = d at *
      generalize (a * 16 + d) = a2 at *
      generalize (a * 16) = a1 at *
      simp [b125_0, List.replicate, hlt, bytesSV_length, hc, hs8, e95, e48, e57, h10, hcut, hw8, hw64, hw2, hw3, hw4, hw5, q1, q2]

def S125u (F : List SV → Option AV) : Prop :=
  (∀ s : List UInt8, s.length < 1000000000000 → s ≠ [] → (∀ c ∈ s, digitV c.toNat < 16) → hexN 0 s < 18446744073709551616 → F [.str s, .int .i64 16, .int .i64 64] = some (.sv (.tup [.int .u64 (hexN 0 s : Nat), .nilI]))) ∧
  (∀ n : Nat, n < 18446744073709551616 → F [.str (decS n), .int .i64 0, .int .i64 64] = some (.sv (.tup [.int .u64 (n : Int), .nilI])))

theorem decS_head : ∀ n : Nat, 0 < n → ∃ c cs, decS n = c :: cs ∧ c.toNat ≠ 48 := by
  intro n
  induction n using Nat.strongRecOn with
  | _ n ih =>
    intro hn
    by_cases h : n < 10
    · refine ⟨UInt8.ofNat (48 + n), [], decS_small h, ?_⟩
      rw [dig_toNat h]; omega
    · obtain ⟨c, cs, h1, h2⟩ := ih (n / 10) (by omega) (by omega)
      exact ⟨c, cs ++ [UInt8.ofNat (48 + n % 10)], by rw [decS_step h, h1]; rfl, h2⟩

set_option maxRecDepth 100000 in
set_option maxHeartbeats 4000000 in
theorem ev125u (E : Env) (h : E.code 190 = some c125) (h135 : Has E 201 S135) : S125u (autoF E 190) := by
  have hsh : IntKind.u64.wrap (IntKind.u64.wrap (2 ^ min 64 IntKind.u64.bits) - 1) = 18446744073709551615 := by decide
  have hsh0 : IntKind.u64.wrap 64 = 64 := by decide
  refine ⟨fun s hs hne hd hv => ?_, fun n hn => ?_⟩
  · have hl := loop125h E (evF E (s.length + 1)) h135 s s hs (s.length + 1) s [] 0 (s.length + 1) rfl hd hv (by omega)
    refine autoF_sv (n := s.length + 1) ?_ rfl
    unfold evP
    simp only [h]
    simp only [List.replicate, List.cons_append, List.nil_append, List.length_nil, Int.ofNat_zero, Int.natCast_zero] at hl
    generalize hexN 0 s = v at *
    simp [c125, List.replicate, hne, hsh, hsh0, bytesSV_length, hl]
  · obtain ⟨g1, g2, g3⟩ := decS_dig n
    have hlen := decS_len20 hn
    by_cases hz : n = 0
    · subst hz
      have hl := loop125b E (evF E 1) true [48] [] (by simp) 1 [] [] 0 1 rfl (by simp) (by rw [digN_nil]; omega) (by simp)
      refine autoF_sv (n := 1) ?_ rfl
      unfold evP
      simp only [h]
      rw [decS_small (by omega)]
      kernel_rfl
    · obtain ⟨c, cs, hcs, h48⟩ := decS_head n (by omega)
      have hl := loop125b E (evF E ((decS n).length + 1)) true (decS n) (decS n) (by omega) ((decS n).length + 1) (decS n) [] 0 ((decS n).length + 1) rfl g2 (by rw [g1]; exact hn) (by omega)
      rw [g1] at hl
      refine autoF_sv (n := (decS n).length + 1) ?_ rfl
      unfold evP
      simp only [h]
      simp only [List.replicate, List.cons_append, List.nil_append, List.length_nil, Int.ofNat_zero, Int.natCast_zero] at hl
      have e48 : ((c.toNat : Int) == 48) = false := by rw [Bool.eq_false_iff]; simp; omega
      rw [hcs] at hl ⊢
      simp [c125, List.replicate, hsh, hsh0, bytesSV_length, e48]
      simp at hl
      simp [hl]

def S91 (F : List SV → Option AV) : Prop := S125u F

theorem ev91 (E : Env) (h : E.code 120 = some c91) (h125 : Has E 190 S125u) : S91 (autoF E 120) := by
  obtain ⟨F, hp, hF1, hF2⟩ := h125
  refine ⟨fun s hs hne hd hv => ?_, fun n hn => ?_⟩
  · have := hF1 s hs hne hd hv
    refine autoF_sv (n := 1) ?_ rfl
    unfold evP
    simp only [h]
    generalize hexN 0 s = v at *
    simp [c91, List.replicate, hp, this]
  · have := hF2 n hn
    refine autoF_sv (n := 1) ?_ rfl
    unfold evP
    simp only [h]
    generalize decS n = v at *
    simp [c91, List.replicate, hp, this]

end Go.Ev
