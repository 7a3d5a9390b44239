/- Parts of a text, padding, hexadecimal numbers: the reference's functions. -/
/- Tables of sockets: what is fine. -/
/- Tables of sockets: what is fine, whole. -/
import Derived.Test.YtnpkdihdpgfemaaGreatDoorKA
import Derived.Test.YtnpkdihdpgfemaaGreatDoorEvE
set_option linter.unusedSimpArgs false
set_option linter.unusedVariables false
namespace Go.Ev
open Go.Proofs

/-! ### Parts -/

def S1125 (F : List SV → Option AV) : Prop := ∀ (s : List UInt8) (b : UInt8), s.length < 1000000000000 → F [.str s, .int .u8 (b.toNat : Int)] = some (.sv (.sl (strs (partG b.toNat [] s))))

theorem loop1125 (E : Env) (cf : CallF) (s : List UInt8) (b : UInt8) (hs : s.length < 1000000000000) (m : Nat) :
    ∀ (rest pre cur : List UInt8) (acc : List SV) (p i k : Nat), s = pre ++ cur ++ rest → p = pre.length → i = pre.length + cur.length → acc.length ≤ i → rest.length < k →
      rounds (evC E cf m b1125_0) k { tm := [.sv (.str s), .sv (.int .u8 (b.toNat : Int)), .sv .undef, .sv .undef, .sv .undef, accA 9 acc, .sv (.int .i64 p), .sv .undef, .sv .undef, .sv (.int .i64 s.length), .sv (.int .i64 i)] ++ List.replicate 23 (.sv .undef), lz := none, bx := [], df := [] } =
        some (.exit 0, { tm := [.sv (.str s), .sv .undef, .sv .undef, .sv .undef, .sv .undef, accA 9 (acc ++ strs (partI b.toNat cur rest)), .sv (.int .i64 ((s.length - (partE b.toNat cur rest).length : Nat) : Int))] ++ List.replicate 27 (.sv .undef), lz := none, bx := [], df := [] }) := by
  intro rest
  induction rest with
  | nil =>
    intro pre cur acc p i k hsp hp hi _ hk
    obtain ⟨k, rfl⟩ : ∃ k', k = k' + 1 := ⟨k - 1, by omega⟩
    have hl : s.length = pre.length + cur.length := by rw [hsp]; simp
    have hlt : ¬ (i < s.length) := by omega
    have hpe : s.length - cur.length = p := by omega
    refine rounds_out ?_ (by simp)
    simp only [partI, partE, hpe]
    simp [b1125_0, List.replicate, hlt, strs]
  | cons c rest ih =>
    intro pre cur acc p i k hsp hp hi ha hk
    obtain ⟨k, rfl⟩ : ∃ k', k = k' + 1 := ⟨k - 1, by omega⟩
    have hl : s.length = pre.length + cur.length + rest.length + 1 := by rw [hsp]; simp; omega
    have hlt : i < s.length := by omega
    have hile : i ≤ s.length := by omega
    have hpi : p ≤ i := by omega
    have hc : ∀ h : i < s.length, s[i]'h = c := by
      have : i = (pre ++ cur).length := by simp [hi]
      subst this; subst hsp; simp
    have hsub : (s.take i).drop p = cur := by
      have : i = (pre ++ cur).length := by simp [hi]
      rw [this, hsp, List.take_left, hp, List.drop_left]
    have hw : IntKind.i64.wrap ((i : Int) + 1) = ((i + 1 : Nat) : Int) := by rw [IntKind.wrap_i64]; omega
    by_cases h10 : c.toNat = b.toNat
    · have hl1 : (acc.length + 1) * 16 ≤ 140737488355328 := by omega
      have hl2 : acc.length + 1 ≤ 140737488355328 := by omega
      have h10' : (c.toNat : Int) = (b.toNat : Int) := by omega
      have he := ih (pre ++ cur ++ [c]) [] (acc ++ [.str cur]) (i + 1) (i + 1) k (by rw [hsp]; simp) (by simp; omega) (by simp; omega) (by simp; omega) (by simp at hk; omega)
      simp only [partI, partE, if_pos h10]
      rw [show acc ++ strs (cur :: partI b.toNat [] rest) = acc ++ [SV.str cur] ++ strs (partI b.toNat [] rest) from by simp [strs], ← he]
      refine rounds_step ?_
      cases acc with
      | nil => simp [b1125_0, List.replicate, hlt, hile, hpi, hc, hw, h10', hsub, accA]
      | cons y ys =>
        simp only [List.length_cons] at hl1 hl2
        simp [b1125_0, List.replicate, hlt, hile, hpi, hc, hw, h10', hsub, accA, hl1, hl2]
    · have h10' : ¬ (c.toNat : Int) = (b.toNat : Int) := by omega
      have h10b : ((c.toNat : Int) == (b.toNat : Int)) = false := by simpa using h10'
      have he := ih pre (cur ++ [c]) acc p (i + 1) k (by rw [hsp]; simp) hp (by simp; omega) (by omega) (by simp at hk; omega)
      simp only [partI, partE, if_neg h10]
      rw [← he]
      refine rounds_step ?_
      simp [b1125_0, List.replicate, hlt, hile, hpi, hc, hw, h10', h10b]

theorem ev1125 (E : Env) (h : E.code 125 = some c1125) : S1125 (autoF E 125) := by
  intro s b hs
  have hl := loop1125 E (evF E (s.length + 1)) s b hs (s.length + 1) s [] [] [] 0 0 (s.length + 1) rfl rfl rfl (by simp) (by omega)
  have hpe : (partE b.toNat [] s).length ≤ s.length := by have := partE_len b.toNat s []; simpa using this
  have hpe2 : s.drop (s.length - (partE b.toNat [] s).length) = partE b.toNat [] s := by
    have key : ∀ (s cur pre : List UInt8), ∃ q, pre ++ cur ++ s = q ++ partE b.toNat cur s := by
      intro s
      induction s with
      | nil => intro cur pre; exact ⟨pre, by simp [partE]⟩
      | cons c s ih =>
        intro cur pre
        simp only [partE]
        split
        · obtain ⟨q, hq⟩ := ih [] (pre ++ cur ++ [c])
          exact ⟨q, by rw [← hq]; simp⟩
        · obtain ⟨q, hq⟩ := ih (cur ++ [c]) pre
          exact ⟨q, by rw [← hq]; simp⟩
    obtain ⟨q, hq⟩ := key s [] []
    simp only [List.append_nil, List.nil_append] at hq
    have : s.length - (partE b.toNat [] s).length = q.length := by
      have := congrArg List.length hq
      simp at this; omega
    rw [this]
    conv => lhs; rw [hq]
    exact List.drop_left
  have hi := partI_len b.toNat s []
  rw [partG_eq]
  generalize hx : partE b.toNat [] s = x at hl hpe hpe2 ⊢
  generalize hy : partI b.toNat [] s = y at hl hi ⊢
  generalize hz : s.length - x.length = z at hl hpe2
  have hzl : z ≤ s.length := by omega
  have hl1 : (y.length + 1) * 16 ≤ 140737488355328 := by omega
  have hl2 : y.length + 1 ≤ 140737488355328 := by omega
  simp only [List.nil_append] at hl
  refine autoF_sl (n := s.length + 1) (r := .own 9 (strs (y ++ [x]))) ?_ rfl
  unfold evP
  simp only [h]
  simp only [accA, List.replicate, List.cons_append, List.nil_append, List.length_nil, Int.ofNat_zero, Int.natCast_zero] at hl
  cases y with
  | nil => simp only [strs, List.map_nil, accA] at hl; simp [c1125, List.replicate, hl, hzl, hpe2, strs]
  | cons a as =>
    simp only [strs, List.map_cons, accA] at hl
    simp only [List.length_cons] at hl1 hl2
    simp [c1125, List.replicate, hl, hzl, hpe2, strs, hl1, hl2]

/-! ### Padding -/

def S46 (F : List SV → Option AV) : Prop := ∀ (s : List UInt8) (n : Nat), n < 1000000 → s.length < 100000000000 → F [.str s, .int .i64 (n : Int)] = some (.sv (.str (rightS s n)))

theorem loop46r (E : Env) (cf : CallF) (m : Nat) (n : Nat) (hn : n < 1000000) :
    ∀ (d : Nat) (s : List UInt8) (k : Nat), n - s.length ≤ d → s.length < 1000000000000 → d < k →
      rounds (evC E cf m b46_0) k { tm := [.sv (.str s), .sv (.int .i64 n)] ++ List.replicate 10 (.sv .undef), lz := none, bx := [], df := [] } =
        some (.exit 0, { tm := [.sv (.str (rightS s n))] ++ List.replicate 11 (.sv .undef), lz := none, bx := [], df := [] }) := by
  intro d
  induction d with
  | zero =>
    intro s k hd hs hk
    obtain ⟨k, rfl⟩ : ∃ k', k = k' + 1 := ⟨k - 1, by omega⟩
    have hlt : ¬ (s.length < n) := by omega
    refine rounds_out ?_ (by simp)
    rw [rightS_done hlt]
    have hltI : ¬ (s.length : Int) < (n : Int) := by omega
    simp [b46_0, List.replicate, hlt, hltI]
  | succ d ih =>
    intro s k hd hs hk
    obtain ⟨k, rfl⟩ : ∃ k', k = k' + 1 := ⟨k - 1, by omega⟩
    by_cases hlt : s.length < n
    · have he := ih (32 :: s) k (by simp; omega) (by simp; omega) (by omega)
      rw [rightS_step hlt] at he
      rw [← he]
      refine rounds_step ?_
      have hltI : (s.length : Int) < (n : Int) := by omega
      have hb : 1 + s.length < 4611686018427387904 := by omega
      simp [b46_0, List.replicate, hlt, hltI, hb]
    · refine rounds_out ?_ (by simp)
      rw [rightS_done hlt]
      have hltI : ¬ (s.length : Int) < (n : Int) := by omega
      simp [b46_0, List.replicate, hlt, hltI]

theorem ev46 (E : Env) (h : E.code 112 = some c46) : S46 (autoF E 112) := by
  intro s n hn hs
  have hl := loop46r E (evF E (n + 1)) (n + 1) n hn n s (n + 1) (by omega) (by omega) (by omega)
  refine autoF_sv (n := n + 1) ?_ rfl
  unfold evP
  simp only [h]
  simp only [List.replicate, List.cons_append, List.nil_append] at hl
  simp [c46, List.replicate, hl]

/-! ### Hexadecimal digits -/

noncomputable def F97h : List SV → Option AV
  | [.int .u64 n, .int .u64 b] => onlyIf (0 ≤ n ∧ n < 18446744073709551616 ∧ b = 16) (some (.sv (.str (hexS n.toNat))))
  | _ => none

theorem F97h_eq (n : Nat) (h : n < 18446744073709551616) : F97h [.int .u64 (n : Int), .int .u64 16] = some (.sv (.str (hexS n))) := by
  show onlyIf _ (some (AV.sv (.str (hexS (n : Int).toNat)))) = _
  rw [onlyIf_pos ⟨by omega, by omega, rfl⟩]; simp

theorem ev97h (E : Env) (h : E.code 136 = some c97) (n k : Nat) (hk : k < 18446744073709551616) :
    evP (E.add 136 (fun us => if size97 us < k then F97h us else none)) n 136 [.int .u64 k, .int .u64 16] = some (.sv (.str (hexS k))) := by
  unfold evP
  have hc : (E.add 136 (fun us => if size97 us < k then F97h us else none)).code 136 = some c97 := h
  simp only [hc]
  have hm : Int.tmod (k : Int) 16 = ((k % 16 : Nat) : Int) := rfl
  have hq : IntKind.u64.wrap ((k : Int) / 16) = ((k / 16 : Nat) : Int) := by rw [IntKind.wrap_u64]; omega
  have hr16 : ∀ r, r < 16 → r = 0 ∨ r = 1 ∨ r = 2 ∨ r = 3 ∨ r = 4 ∨ r = 5 ∨ r = 6 ∨ r = 7 ∨ r = 8 ∨ r = 9 ∨ r = 10 ∨ r = 11 ∨ r = 12 ∨ r = 13 ∨ r = 14 ∨ r = 15 := by intro r hr; omega
  by_cases hlt : k < 16
  · rw [hexS_small hlt]
    rcases hr16 k hlt with rfl | rfl | rfl | rfl | rfl | rfl | rfl | rfl | rfl | rfl | rfl | rfl | rfl | rfl | rfl | rfl <;> simp [c97, svBytes, List.replicate, hexC]
  · have e1 : ¬ (k : Int) < 16 := by omega
    rw [hexS_step hlt]
    have hlen := hexS_len16 (n := k / 16) (by omega)
    have hs : k / 16 < k := by omega
    have hb : ((k / 16 : Nat) : Int) < 18446744073709551616 := by omega
    have hb2 : (hexS (k / 16)).length + 1 < 4611686018427387904 := by omega
    rcases hr16 (k % 16) (by omega) with hr | hr | hr | hr | hr | hr | hr | hr | hr | hr | hr | hr | hr | hr | hr | hr
    · have hm2 : (k : Int) % 16 = 0 := by omega
      simp [c97, svBytes, List.replicate, hm, hm2, hr, e1, hq, F97h, size97, hs, hb, hb2, hexC, -Int.natCast_ediv]
    · have hm2 : (k : Int) % 16 = 1 := by omega
      simp [c97, svBytes, List.replicate, hm, hm2, hr, e1, hq, F97h, size97, hs, hb, hb2, hexC, -Int.natCast_ediv]
    · have hm2 : (k : Int) % 16 = 2 := by omega
      simp [c97, svBytes, List.replicate, hm, hm2, hr, e1, hq, F97h, size97, hs, hb, hb2, hexC, -Int.natCast_ediv]
    · have hm2 : (k : Int) % 16 = 3 := by omega
      simp [c97, svBytes, List.replicate, hm, hm2, hr, e1, hq, F97h, size97, hs, hb, hb2, hexC, -Int.natCast_ediv]
    · have hm2 : (k : Int) % 16 = 4 := by omega
      simp [c97, svBytes, List.replicate, hm, hm2, hr, e1, hq, F97h, size97, hs, hb, hb2, hexC, -Int.natCast_ediv]
    · have hm2 : (k : Int) % 16 = 5 := by omega
      simp [c97, svBytes, List.replicate, hm, hm2, hr, e1, hq, F97h, size97, hs, hb, hb2, hexC, -Int.natCast_ediv]
    · have hm2 : (k : Int) % 16 = 6 := by omega
      simp [c97, svBytes, List.replicate, hm, hm2, hr, e1, hq, F97h, size97, hs, hb, hb2, hexC, -Int.natCast_ediv]
    · have hm2 : (k : Int) % 16 = 7 := by omega
      simp [c97, svBytes, List.replicate, hm, hm2, hr, e1, hq, F97h, size97, hs, hb, hb2, hexC, -Int.natCast_ediv]
    · have hm2 : (k : Int) % 16 = 8 := by omega
      simp [c97, svBytes, List.replicate, hm, hm2, hr, e1, hq, F97h, size97, hs, hb, hb2, hexC, -Int.natCast_ediv]
    · have hm2 : (k : Int) % 16 = 9 := by omega
      simp [c97, svBytes, List.replicate, hm, hm2, hr, e1, hq, F97h, size97, hs, hb, hb2, hexC, -Int.natCast_ediv]
    · have hm2 : (k : Int) % 16 = 10 := by omega
      simp [c97, svBytes, List.replicate, hm, hm2, hr, e1, hq, F97h, size97, hs, hb, hb2, hexC, -Int.natCast_ediv]
    · have hm2 : (k : Int) % 16 = 11 := by omega
      simp [c97, svBytes, List.replicate, hm, hm2, hr, e1, hq, F97h, size97, hs, hb, hb2, hexC, -Int.natCast_ediv]
    · have hm2 : (k : Int) % 16 = 12 := by omega
      simp [c97, svBytes, List.replicate, hm, hm2, hr, e1, hq, F97h, size97, hs, hb, hb2, hexC, -Int.natCast_ediv]
    · have hm2 : (k : Int) % 16 = 13 := by omega
      simp [c97, svBytes, List.replicate, hm, hm2, hr, e1, hq, F97h, size97, hs, hb, hb2, hexC, -Int.natCast_ediv]
    · have hm2 : (k : Int) % 16 = 14 := by omega
      simp [c97, svBytes, List.replicate, hm, hm2, hr, e1, hq, F97h, size97, hs, hb, hb2, hexC, -Int.natCast_ediv]
    · have hm2 : (k : Int) % 16 = 15 := by omega
      simp [c97, svBytes, List.replicate, hm, hm2, hr, e1, hq, F97h, size97, hs, hb, hb2, hexC, -Int.natCast_ediv]

def S1143 (F : List SV → Option AV) : Prop := ∀ n k : Nat, n < 18446744073709551616 → k < 1000000 → F [.int .u64 (n : Int), .int .u64 16, .int .i64 (k : Int)] = some (.sv (.str (padS (hexS n) k)))

theorem loop1143 (E : Env) (cf : CallF) (m : Nat) (n : Nat) (hn : n < 1000000) :
    ∀ (d : Nat) (s : List UInt8) (k : Nat), n - s.length ≤ d → s.length < 1000000000000 → d < k →
      rounds (evC E cf m b1143_0) k { tm := [.sv .undef, .sv .undef, .sv (.int .i64 n), .sv .undef, .sv .undef, .sv .undef, .sv .undef, .sv (.str s)] ++ List.replicate 10 (.sv .undef), lz := none, bx := [], df := [] } =
        some (.exit 0, { tm := [.sv .undef, .sv .undef, .sv .undef, .sv .undef, .sv .undef, .sv .undef, .sv .undef, .sv (.str (padS s n))] ++ List.replicate 10 (.sv .undef), lz := none, bx := [], df := [] }) := by
  intro d
  induction d with
  | zero =>
    intro s k hd hs hk
    obtain ⟨k, rfl⟩ : ∃ k', k = k' + 1 := ⟨k - 1, by omega⟩
    have hlt : ¬ (s.length < n) := by omega
    refine rounds_out ?_ (by simp)
    rw [padS_done hlt]
    have hltI : ¬ (s.length : Int) < (n : Int) := by omega
    simp [b1143_0, List.replicate, hlt, hltI]
  | succ d ih =>
    intro s k hd hs hk
    obtain ⟨k, rfl⟩ : ∃ k', k = k' + 1 := ⟨k - 1, by omega⟩
    by_cases hlt : s.length < n
    · have he := ih (48 :: s) k (by simp; omega) (by simp; omega) (by omega)
      rw [padS_step hlt] at he
      rw [← he]
      refine rounds_step ?_
      have hltI : (s.length : Int) < (n : Int) := by omega
      have hb : 1 + s.length < 4611686018427387904 := by omega
      simp [b1143_0, List.replicate, hlt, hltI, hb]
    · refine rounds_out ?_ (by simp)
      rw [padS_done hlt]
      have hltI : ¬ (s.length : Int) < (n : Int) := by omega
      simp [b1143_0, List.replicate, hlt, hltI]

theorem ev1143 (E : Env) (h : E.code 143 = some c1143) (h97 : E.pure 136 = some F97h) : S1143 (autoF E 143) := by
  intro n k hn hk
  have h16 := hexS_len16 hn
  have hl := loop1143 E (evF E (k + 1)) (k + 1) k hk k (hexS n) (k + 1) (by omega) (by omega) (by omega)
  have hF := F97h_eq n hn
  refine autoF_sv (n := k + 1) ?_ rfl
  unfold evP
  simp only [h]
  simp only [List.replicate, List.cons_append, List.nil_append] at hl
  simp [c1143, List.replicate, h97, hF, hl]

/-! ### Large letters: bytes written in place -/

theorem svBytes_map (l : List UInt8) : svBytes (bytesSV l) = some l := svBytes_bytes l

def S1113 (F : List SV → Option AV) : Prop := ∀ n k : Nat, n < 18446744073709551616 → k < 1000000 → F [.int .u64 (n : Int), .int .i64 (k : Int)] = some (.sv (.str (upS n k)))

def cellsB (l : List UInt8) : List Cell := (bytesSV l).map .sv

theorem cellsB_cons (c : UInt8) (l : List UInt8) : cellsB (c :: l) = .sv (.int .u8 (c.toNat : Int)) :: cellsB l := rfl
theorem cellsB_append (a b : List UInt8) : cellsB (a ++ b) = cellsB a ++ cellsB b := by simp [cellsB, bytesSV]
theorem cellsB_length (a : List UInt8) : (cellsB a).length = a.length := by simp [cellsB, bytesSV]
theorem cellsB_plain (a : List UInt8) : (cellsB a).map Cell.plain = bytesSV a := by
  unfold cellsB bytesSV
  rw [List.map_map, List.map_map]
  rfl

theorem loop1113 (E : Env) (cf : CallF) (m : Nat) (N : Nat) (hN : N < 1000000000) :
    ∀ (rest pre : List UInt8) (cs : List Cell) (i k : Nat), cs = cellsB (pre.map upB ++ rest) → i = pre.length → N = pre.length + rest.length → rest.length < k →
      rounds (evC E cf m b1113_0) k { tm := [.sv .undef, .sv .undef, .sv .undef, .sv .undef, .sv .undef, .mrow 0 N 1, .sv .undef, .sv .undef, .sv .undef, .sv .undef, .sv .undef, .sv .undef, .sv (.int .i64 N), .sv (.int .i64 i)] ++ List.replicate 16 (.sv .undef), lz := none, bx := [.live cs], df := [] } =
        some (.exit 0, { tm := [.sv .undef, .sv .undef, .sv .undef, .sv .undef, .sv .undef, .mrow 0 N 1] ++ List.replicate 24 (.sv .undef), lz := none, bx := [.live (cellsB ((pre ++ rest).map upB))], df := [] }) := by
  intro rest
  induction rest with
  | nil =>
    intro pre cs i k hcs hi hl hk
    obtain ⟨k, rfl⟩ : ∃ k', k = k' + 1 := ⟨k - 1, by omega⟩
    have hlt : ¬ (i < N) := by simp at hl; omega
    refine rounds_out ?_ (by simp)
    rw [List.append_nil] at hcs ⊢
    rw [← hcs]
    simp [b1113_0, List.replicate, hlt]
  | cons c rest ih =>
    intro pre cs i k hcs hi hl hk
    obtain ⟨k, rfl⟩ : ∃ k', k = k' + 1 := ⟨k - 1, by omega⟩
    have hlt : i < N := by simp at hl; omega
    have hw : IntKind.i64.wrap ((i : Int) + 1) = ((i + 1 : Nat) : Int) := by rw [IntKind.wrap_i64]; omega
    have hcl : cs.length = N := by rw [hcs, cellsB_length]; simp at hl ⊢; omega
    have hic : i < cs.length := by omega
    have hd : cs.drop i = .sv (.int .u8 (c.toNat : Int)) :: cellsB rest := by
      rw [hcs, cellsB_append, cellsB_cons]
      have : i = (cellsB (pre.map upB)).length := by rw [cellsB_length, List.length_map]; exact hi
      rw [this, List.drop_left]
    have hset : ∀ x, cs.set i (.sv (.int .u8 ((x : UInt8).toNat : Int))) = cellsB (pre.map upB ++ x :: rest) := by
      intro x
      rw [hcs, cellsB_append, cellsB_append, cellsB_cons, cellsB_cons]
      have : i = (cellsB (pre.map upB)).length := by rw [cellsB_length, List.length_map]; exact hi
      rw [this, List.set_append_right _ _ (Nat.le_refl _), Nat.sub_self]; rfl
    by_cases h97 : 97 ≤ c.toNat
    · have h97' : (97 : Int) ≤ (c.toNat : Int) := by omega
      have hcb := c.toNat_lt
      have hup : upB c = UInt8.ofNat (c.toNat - 32) := by simp [upB, h97]
      have hw8 : IntKind.u8.wrap ((c.toNat : Int) - 32) = ((upB c).toNat : Int) := by
        rw [IntKind.wrap_u8, hup]; simp; omega
      have hs := hset (upB c)
      have he := ih (pre ++ [c]) (cs.set i (.sv (.int .u8 ((upB c).toNat : Int)))) (i + 1) k (by rw [hs]; simp) (by simp [hi]) (by simp at hl ⊢; omega) (by simp at hk; omega)
      rw [show pre ++ c :: rest = pre ++ [c] ++ rest from by simp, ← he]
      refine rounds_step ?_
      simp [b1113_0, List.replicate, hlt, hw, hic, hd, h97', hw8]
    · have h97' : ¬ (97 : Int) ≤ (c.toNat : Int) := by omega
      have hup : upB c = c := by simp [upB, h97]
      have he := ih (pre ++ [c]) cs (i + 1) k (by rw [hcs]; simp [hup]) (by simp [hi]) (by simp at hl ⊢; omega) (by simp at hk; omega)
      rw [show pre ++ c :: rest = pre ++ [c] ++ rest from by simp, ← he]
      refine rounds_step ?_
      simp [b1113_0, List.replicate, hlt, hw, hic, hd, h97']

theorem ev1113 (E : Env) (h : E.code 113 = some c1113) (h43 : Has E 143 S1143) : S1113 (autoF E 113) := by
  intro n k hn hk
  obtain ⟨F, hp, hF⟩ := h43
  have hFn := hF n k hn hk
  have h16 := hexS_len16 hn
  have hpl := padS_len (hexS n) k
  have hne : padS (hexS n) k ≠ [] := by
    obtain ⟨_, _, h3⟩ := hexS_hex n
    unfold padS; simp [h3]
  unfold upS
  generalize padS (hexS n) k = s at hFn hpl hne ⊢
  have hl := loop1113 E (evF E (s.length + 1)) (s.length + 1) s.length (by omega) s [] (cellsB s) 0 (s.length + 1) (by simp) rfl (by simp) (by omega)
  have hcp := cellsB_plain (s.map upB)
  have hcl := cellsB_length (s.map upB)
  rw [List.length_map] at hcl
  have hsv := svBytes_map (s.map upB)
  rw [List.nil_append] at hl
  have e0 : List.map Cell.sv (bytesSV s) = cellsB s := rfl
  generalize cellsB (s.map upB) = cs2 at hl hcp hcl
  generalize cellsB s = cs1 at hl e0
  refine autoF_sv (n := s.length + 1) ?_ rfl
  unfold evP
  simp only [h]
  simp only [List.replicate, List.cons_append, List.nil_append, Int.ofNat_zero, Int.natCast_zero] at hl
  have hbl : (bytesSV (s.map upB)).length = s.length := by simp [bytesSV]
  have hem : s.isEmpty = false := by simpa using hne
  simp [c1113, List.replicate, hp, hFn, hem, hne, e0, hl, hcp, hcl, hsv, hbl]

/-! ### Numbers of base 16 -/

def S123 (F : List SV → Option AV) : Prop := ∀ s : List UInt8, s.length < 9223372036854775807 → F [.str s, .int .u64 16] = some (.sv (.tup (match hexV s with | some m => [.int .u64 m, .bool true] | none => match numV 16 0 s with | some m => [.int .u64 m, .bool false] | none => [.int .u64 0, .bool false])))

theorem loop123h (E : Env) (cf : CallF) (hP : E.pure 111 = some F134) (s : List UInt8) (hs : s.length < 9223372036854775807) (m : Nat) :
    ∀ (rest pre : List UInt8) (n k : Nat), s = pre ++ rest → n < 18446744073709551616 → rest.length < k →
      rounds (evC E cf m b123_0) k { tm := [.sv (.str s), .sv (.int .u64 16), .sv .undef, .sv .undef, .sv .undef, .sv .undef, .sv (.int .u64 n), .sv .undef, .sv .undef, .sv .undef, .sv (.int .i64 s.length), .sv (.int .i64 pre.length)] ++ List.replicate 26 (.sv .undef), lz := none, bx := [], df := [] } =
        match numV 16 n rest with
        | some m => some (.exit 0, { tm := [.sv (.str s), .sv .undef, .sv .undef, .sv .undef, .sv .undef, .sv .undef, .sv (.int .u64 m)] ++ List.replicate 31 (.sv .undef), lz := none, bx := [], df := [] })
        | none => some (.ret, { tm := [.sv .undef, .sv .undef, .sv .undef, .sv .undef, .sv (.int .u64 0), .sv (.bool false)] ++ List.replicate 32 (.sv .undef), lz := none, bx := [], df := [] }) := by
  intro rest
  induction rest with
  | nil =>
    intro pre n k hsp hn hk
    obtain ⟨k, rfl⟩ : ∃ k', k = k' + 1 := ⟨k - 1, by omega⟩
    have hlt : ¬ (pre.length < s.length) := by rw [hsp]; simp
    simp [rounds, b123_0, List.replicate, hlt, numV]
  | cons c rest ih =>
    intro pre n k hsp hn hk
    obtain ⟨k, rfl⟩ : ∃ k', k = k' + 1 := ⟨k - 1, by omega⟩
    have hlt : pre.length < s.length := by rw [hsp]; simp
    have hc : ∀ h : pre.length < s.length, s[pre.length]'h = c := by subst hsp; simp
    have hc1 : (c.toNat : Int) < 256 := by have := c.toNat_lt; omega
    have hd := digitV_le c.toNat
    by_cases h1 : digitV c.toNat ≥ 16
    · have e1 : (16 : Int) ≤ (digitV c.toNat : Int) := by omega
      have hv : numV 16 n (c :: rest) = none := by simp [numV, h1]
      rw [hv]
      simp [rounds, b123_0, List.replicate, hlt, hc, hP, F134, hc1, e1]
    · have e1 : ¬ (16 : Int) ≤ (digitV c.toNat : Int) := by omega
      have hw : IntKind.u64.wrap (18446744073709551615 - (digitV c.toNat : Int)) = ((18446744073709551615 - digitV c.toNat : Nat) : Int) := by rw [IntKind.wrap_u64]; omega
      have hq : IntKind.u64.wrap (((18446744073709551615 - digitV c.toNat : Nat) : Int) / 16) = (((18446744073709551615 - digitV c.toNat) / 16 : Nat) : Int) := by rw [IntKind.wrap_u64]; omega
      by_cases h2 : n > (18446744073709551615 - digitV c.toNat) / 16
      · have e2 : (((18446744073709551615 - digitV c.toNat) / 16 : Nat) : Int) < (n : Int) := by omega
        have hv : numV 16 n (c :: rest) = none := by simp [numV, h2]
        rw [hv]
        simp [rounds, b123_0, List.replicate, hlt, hc, hP, F134, hc1, e1, hw, hq, e2, -Int.natCast_ediv]
      · have e2 : ¬ (((18446744073709551615 - digitV c.toNat) / 16 : Nat) : Int) < (n : Int) := by omega
        have hv : numV 16 n (c :: rest) = numV 16 (n * 16 + digitV c.toNat) rest := by simp [numV, h1, h2]
        have hb : n * 16 + digitV c.toNat < 18446744073709551616 := by omega
        have hw1 : IntKind.u64.wrap (IntKind.u64.wrap ((n : Int) * 16) + (digitV c.toNat : Int)) = ((n * 16 + digitV c.toNat : Nat) : Int) := by rw [IntKind.wrap_u64, IntKind.wrap_u64]; omega
        have hw2 : IntKind.i64.wrap ((pre.length : Int) + 1) = ((pre ++ [c]).length : Int) := by rw [IntKind.wrap_i64]; simp; omega
        have := ih (pre ++ [c]) (n * 16 + digitV c.toNat) k (by rw [hsp]; simp) hb (by simp at hk; omega)
        rw [hv, ← this]
        simp [rounds, b123_0, List.replicate, hlt, hc, hP, F134, hc1, e1, hw, hq, e2, hw1, hw2, -Int.natCast_ediv]

theorem ev123h (E : Env) (h : E.code 126 = some c123) (h134 : E.pure 111 = some F134) : S123 (autoF E 126) := by
  intro s hs
  have hl := loop123h E (evF E (s.length + 1)) h134 s hs (s.length + 1) s [] 0 (s.length + 1) rfl (by omega) (by omega)
  simp [List.replicate] at hl
  refine autoF_sv (n := s.length + 1) ?_ rfl
  unfold evP
  simp only [h]
  unfold hexV
  cases hv : numV 16 0 s with
  | none => simp [hv] at hl; simp [c123, List.replicate, hl]
  | some m =>
    simp [hv] at hl
    by_cases hne : s = []
    · subst hne
      simp only [List.length_nil, Int.ofNat_zero, Int.natCast_zero, Nat.zero_add] at hl ⊢
      simp [c123, List.replicate, hl]
    · simp [c123, List.replicate, hl, hne]

end Go.Ev

set_option linter.unusedSimpArgs false
set_option linter.unusedVariables false
namespace Go.Ev
open Go.Proofs

theorem castI2 : ((2 : Nat) : Int) = 2 := rfl
theorem castI4 : ((4 : Nat) : Int) = 4 := rfl
theorem castI5 : ((5 : Nat) : Int) = 5 := rfl
theorem castI8 : ((8 : Nat) : Int) = 8 := rfl
theorem castI32 : ((32 : Nat) : Int) = 32 := rfl

def cnt63 (r : RowD) : Bool := r.N.all (fun n => decide (n < 9223372036854775808)) && decide (r.N.length = 9) && decide (r.S.length = 2)

theorem loop1083s (E : Env) (cf : CallF) (xs : List SV) (hs : xs.length < 1000000000000) (m : Nat) (bx : List Box) (a1 a3 a4 : AV) :
    ∀ (rest : List Nat) (pre : List SV) (k : Nat), xs = pre ++ u64s rest → (∀ n ∈ rest, n < 18446744073709551616) → rest.length < k →
      rounds (evC E cf m b1083_0) k { tm := [.sv .undef, a1, .sv (.int .i64 63), a3, a4, .sv .undef, .sv .undef, .sv .undef, .sv .undef, .sv .undef, .sv .undef, .sv .undef, .sv (.sl xs), .sv (.int .i64 xs.length), .sv (.int .i64 pre.length)] ++ List.replicate 23 (.sv .undef), lz := none, bx := bx, df := [] } =
        if rest.all (fun n => decide (n < 9223372036854775808)) = true then some (.exit 0, { tm := [.sv .undef, a1, .sv .undef, a3, a4] ++ List.replicate 33 (.sv .undef), lz := none, bx := bx, df := [] })
        else some (.ret, { tm := List.replicate 8 (.sv .undef) ++ [.sv (.bool false)] ++ List.replicate 29 (.sv .undef), lz := none, bx := bx, df := [] }) := by
  intro rest
  induction rest with
  | nil =>
    intro pre k hsp _ hk
    obtain ⟨k, rfl⟩ : ∃ k', k = k' + 1 := ⟨k - 1, by omega⟩
    have hlt : ¬ (pre.length < xs.length) := by rw [hsp]; simp [u64s]
    refine rounds_out ?_ (by simp)
    simp [b1083_0, List.replicate, hlt]
  | cons c rest ih =>
    intro pre k hsp hr hk
    obtain ⟨k, rfl⟩ : ∃ k', k = k' + 1 := ⟨k - 1, by omega⟩
    have hlt : pre.length < xs.length := by rw [hsp]; simp [u64s]
    have hc : ∀ h : pre.length < xs.length, xs[pre.length]'h = .int .u64 (c : Int) := by subst hsp; simp [u64s]
    have hw2 : IntKind.i64.wrap ((pre.length : Int) + 1) = ((pre ++ [SV.int .u64 (c : Int)]).length : Int) := by rw [IntKind.wrap_i64]; simp; omega
    have w1 : IntKind.i64.wrap 62 = 62 := by decide
    have w0 : IntKind.u64.bits = 64 := rfl
    have w2 : IntKind.u64.wrap 4611686018427387904 = 4611686018427387904 := by decide
    have w3 : IntKind.u64.wrap 9223372036854775808 = 9223372036854775808 := by decide
    have w4 : IntKind.u64.wrap 9223372036854775807 = 9223372036854775807 := by decide
    by_cases h1 : c < 9223372036854775808
    · have e : ¬ (9223372036854775807 : Int) < (c : Int) := by omega
      have := ih (pre ++ [.int .u64 (c : Int)]) k (by rw [hsp]; simp [u64s]) (fun n hn => hr n (by simp [hn])) (by simp at hk; omega)
      rw [show (c :: rest).all (fun n => decide (n < 9223372036854775808)) = rest.all (fun n => decide (n < 9223372036854775808)) from by simp [h1], ← this]
      refine rounds_step ?_
      simp [b1083_0, List.replicate, hlt, hc, e, hw2, w0, w1, w2, w3, w4]
    · have e : (9223372036854775807 : Int) < (c : Int) := by omega
      rw [if_neg (by simp [h1])]
      refine rounds_out ?_ (by simp)
      simp [b1083_0, List.replicate, hlt, hc, e, w0, w1, w2, w3, w4]

def S1083s (F : List SV → Option AV) : Prop := ∀ r : RowD, r.fits3 → F [.agg [.str r.name, .sl (u64s r.N), .sl (strs r.S)], .int .i64 9, .int .i64 63, .int .i64 2] = some (.sv (.bool (cnt63 r)))

theorem ev1083s (E : Env) (h : E.code 83 = some c1083) : S1083s (autoF E 83) := by
  intro r hr
  obtain ⟨n, hn⟩ : ∃ n, r.N.length < n := ⟨r.N.length + 1, by omega⟩
  refine autoF_sv (n := n) ?_ rfl
  unfold evP
  simp only [h]
  obtain ⟨name, N, S⟩ := r
  simp only at hn
  have hsl : (u64s N).length = N.length := u64s_length N
  have hst : (strs S).length = S.length := strs_length S
  have hl := loop1083s E (evF E n) (u64s N) (by rw [hsl]; have := hr.2.1; simp only at this; omega) n [.live [.sv (.str name), .sv (.sl (u64s N)), .sv (.sl (strs S))]] (.sv (.int .i64 9)) (.sv (.int .i64 2)) (.ptr 0 0) N [] n rfl hr.2.2.1 hn
  simp only [List.replicate, List.cons_append, List.nil_append, List.length_nil, Int.ofNat_zero, Int.natCast_zero, hsl] at hl
  have b1 : ((N.length : Int) == 9) = decide (N.length = 9) := by rw [Bool.eq_iff_iff]; simp; omega
  have b2 : ((S.length : Int) == 2) = decide (S.length = 2) := by rw [Bool.eq_iff_iff]; simp; omega
  simp only [cnt63]
  cases hv : N.all (fun n => decide (n < 9223372036854775808)) with
  | false => simp only [hv, Bool.false_eq_true, if_false] at hl; simp [c1083, List.replicate, hl, hsl]
  | true =>
    simp only [hv, if_true] at hl
    by_cases h1 : N.length = 9
    · have e1 : ((N.length : Nat) : Int) = 9 := by omega
      rw [e1] at hl
      simp [c1083, List.replicate, hl, hsl, hst, b1, b2, h1]
    · simp [c1083, List.replicate, hl, hsl, hst, b1, b2, h1]

/-! ### The bytes of an address -/

theorem loop1068_0 (E : Env) (cf : CallF) (h134 : E.pure 111 = some F134) (m : Nat) (bx : List Box) (s : List UInt8) (hs : s.length < 1000000) (a1 a6 a10 a11 a12 a92 a93 a94 : AV) :
    ∀ (rest pre : List UInt8) (k : Nat), s = pre ++ rest → rest.length < k →
      roundsA (evCA E cf m b1068_0) k { nt := 135, tm := [(118, .sv (.int .i64 pre.length)), (117, .sv (.int .i64 s.length)), (94, a94), (93, a93), (92, a92), (12, a12), (11, a11), (10, a10), (8, .sv (.str s)), (6, a6), (1, a1)], lz := none, bx := bx, df := [] } =
        if rest.all addrC = true then some (.exit 4, { nt := 135, tm := [(94, a94), (93, a93), (92, a92), (12, a12), (11, a11), (10, a10), (6, a6), (1, a1)], lz := none, bx := bx, df := [] })
        else some (.ret, { nt := 135, tm := [(4, .sv (.bool false))], lz := none, bx := bx, df := [] }) := by
  intro rest
  induction rest with
  | nil =>
    intro pre k hsp hk
    obtain ⟨k, rfl⟩ : ∃ k', k = k' + 1 := ⟨k - 1, by omega⟩
    have hlt : ¬ (pre.length < s.length) := by rw [hsp]; simp
    refine roundsA_out ?_ (by simp)
    simp [b1068_0, hlt]
  | cons c rest ih =>
    intro pre k hsp hk
    obtain ⟨k, rfl⟩ : ∃ k', k = k' + 1 := ⟨k - 1, by omega⟩
    have hlt : pre.length < s.length := by rw [hsp]; simp
    have hc : ∀ h : pre.length < s.length, s[pre.length]'h = c := by subst hsp; simp
    have hw2 : IntKind.i64.wrap ((pre.length : Int) + 1) = ((pre ++ [c]).length : Int) := by rw [IntKind.wrap_i64]; simp; omega
    have hc1 : (c.toNat : Int) < 256 := by have := c.toNat_lt; omega
    by_cases h1 : digitV c.toNat ≤ 15
    · have e1 : ¬ (15 : Int) < (digitV c.toNat : Int) := by omega
      by_cases h2 : c.toNat < 97
      · have e2 : ¬ (97 : Int) ≤ (c.toNat : Int) := by omega
        have := ih (pre ++ [c]) k (by rw [hsp]; simp) (by simp at hk; omega)
        rw [show (c :: rest).all addrC = rest.all addrC from by simp [addrC, h1, h2], ← this]
        refine roundsA_step ?_
        simp [b1068_0, hlt, hc, hw2, h134, F134, hc1, e1, e2]
      · have e2 : (97 : Int) ≤ (c.toNat : Int) := by omega
        rw [if_neg (by simp [addrC, h1, h2])]
        refine roundsA_out ?_ (by simp)
        simp [b1068_0, hlt, hc, h134, F134, hc1, e1, e2]
    · have e1 : (15 : Int) < (digitV c.toNat : Int) := by omega
      rw [if_neg (by simp [addrC, h1])]
      refine roundsA_out ?_ (by simp)
      simp [b1068_0, hlt, hc, h134, F134, hc1, e1]

end Go.Ev

set_option linter.unusedSimpArgs false
set_option linter.unusedVariables false
namespace Go.Ev
open Go.Proofs

/-- The state at the head of the loop over the rows. -/
def st1068 (d : Bool) (xs : List SV) (i : Nat) (bx : List Box) : SA := { nt := 135, tm := [(12, .sv (.int .i64 i)), (11, .sv (.int .i64 xs.length)), (10, .sv (.sl xs)), (1, .sv (.bool d))], lz := none, bx := bx, df := [] }

def bad1068 (bx : List Box) : SA := { nt := 135, tm := [(4, .sv (.bool false))], lz := none, bx := bx, df := [] }

def end1068 (bx : List Box) : SA := { nt := 135, tm := [], lz := none, bx := bx, df := [] }

theorem cnt63_spec {r : RowD} (h : cnt63 r = true) : ∃ n0 n1 n2 n3 n4 n5 n6 n7 n8 a b, r.N = [n0, n1, n2, n3, n4, n5, n6, n7, n8] ∧ r.S = [a, b] ∧ (∀ n ∈ r.N, n < 9223372036854775808) := by
  obtain ⟨nm, N, S⟩ := r
  simp only [cnt63, Bool.and_eq_true, decide_eq_true_eq, List.all_eq_true] at h
  obtain ⟨⟨h1, h2⟩, h3⟩ := h
  match N, S, h2, h3 with
  | [n0, n1, n2, n3, n4, n5, n6, n7, n8], [a, b], _, _ => exact ⟨n0, n1, n2, n3, n4, n5, n6, n7, n8, a, b, rfl, rfl, h1⟩

theorem skOk_cnt {d : Bool} {r : RowD} (h : skOk d r = true) : cnt63 r = true := by
  obtain ⟨n0, n1, n2, n3, n4, n5, n6, n7, n8, a, b, hs⟩ := skOk_spec h
  have := hs.h0; have := hs.h1; have := hs.h2; have := hs.h3; have := hs.h4; have := hs.h5; have := hs.h6; have := hs.h7; have := hs.h8
  simp only [cnt63, hs.hN, hs.hS, Bool.and_eq_true, decide_eq_true_eq, List.all_eq_true, List.length_cons, List.length_nil, and_true, List.mem_cons, List.not_mem_nil, or_false]
  intro n hn
  rcases hn with rfl | rfl | rfl | rfl | rfl | rfl | rfl | rfl | rfl <;> omega

theorem skOk_eq (d : Bool) (nm : List UInt8) (n0 n1 n2 n3 n4 n5 n6 n7 n8 : Nat) (a b : List UInt8) : skOk d ⟨nm, [n0, n1, n2, n3, n4, n5, n6, n7, n8], [a, b]⟩ =
    (decide (n0 < 2147483648) && decide (n1 < 65536) && decide (n2 < 65536) && decide (1 ≤ n3) && decide (n3 ≤ 12) && decide (n4 < 4294967296) && decide (n5 < 4294967296) && decide (n6 < 4294967296) &&
      decide (n7 < 9223372036854775808) && decide (n8 < 9223372036854775808) && (d || decide (n8 = 0)) && (nm == []) && addrOk a a.length && addrOk b a.length) := rfl

set_option maxHeartbeats 8000000 in
/-- A row with the wrong counts. -/
theorem step1068_cnt (E : Env) (cf : CallF) (m : Nat) (h83 : Has E 83 S1083s) (d : Bool) (xs : List SV) (r : RowD) (hr : r.fits3) (i : Nat) (hlt : i < xs.length) (hc : ∀ h : i < xs.length, xs[i]'h = .agg [.str r.name, .sl (u64s r.N), .sl (strs r.S)]) (bx : List Box) (hb : cnt63 r = false) :
    evCA E cf m b1068_2 (st1068 d xs i bx) = some (.ret, bad1068 (bx ++ [rowBox r])) := by
  obtain ⟨F, hp, hF⟩ := h83
  have hFr := hF r hr
  rw [hb] at hFr
  simp [st1068, bad1068, b1068_2, hlt, hc, hp, hFr, rowBox]

set_option maxHeartbeats 8000000 in
/-- A row with wrong numbers. -/
theorem step1068_num (E : Env) (cf : CallF) (m : Nat) (h83 : Has E 83 S1083s) (d : Bool) (xs : List SV) (nm : List UInt8) (n0 n1 n2 n3 n4 n5 n6 n7 n8 : Nat) (a b : List UInt8) (hr : RowD.fits3 ⟨nm, [n0, n1, n2, n3, n4, n5, n6, n7, n8], [a, b]⟩) (hcn : cnt63 ⟨nm, [n0, n1, n2, n3, n4, n5, n6, n7, n8], [a, b]⟩ = true) (i : Nat) (hlt : i < xs.length)
    (hc : ∀ h : i < xs.length, xs[i]'h = .agg [.str nm, .sl [.int .u64 (n0 : Int), .int .u64 (n1 : Int), .int .u64 (n2 : Int), .int .u64 (n3 : Int), .int .u64 (n4 : Int), .int .u64 (n5 : Int), .int .u64 (n6 : Int), .int .u64 (n7 : Int), .int .u64 (n8 : Int)], .sl [.str a, .str b]]) (bx : List Box)
    (hb : ¬ (n0 < 2147483648 ∧ n1 < 65536 ∧ n2 < 65536 ∧ 1 ≤ n3 ∧ n3 ≤ 12 ∧ n4 < 4294967296 ∧ n5 < 4294967296 ∧ n6 < 4294967296 ∧ (d = true ∨ n8 = 0) ∧ nm = [])) :
    evCA E cf m b1068_2 (st1068 d xs i bx) = some (.ret, bad1068 (bx ++ [rowBox ⟨nm, [n0, n1, n2, n3, n4, n5, n6, n7, n8], [a, b]⟩])) := by
  obtain ⟨F, hp, hF⟩ := h83
  have hFr := hF _ hr
  rw [hcn] at hFr
  simp only [u64s, strs, List.map_cons, List.map_nil] at hFr
  by_cases c0 : n0 < 2147483648
  rotate_left
  · have e0 : (2147483648 : Int) ≤ (n0 : Int) := by omega
    simp [st1068, bad1068, b1068_2, hlt, hc, hp, hFr, rowBox, u64s, strs, e0]
  have e0 : ¬ (2147483648 : Int) ≤ (n0 : Int) := by omega
  by_cases q1 : n1 < 65536
  rotate_left
  · have e1 : (65536 : Int) ≤ (n1 : Int) := by omega
    simp [st1068, bad1068, b1068_2, hlt, hc, hp, hFr, rowBox, u64s, strs, e0, e1]
  have e1 : ¬ (65536 : Int) ≤ (n1 : Int) := by omega
  by_cases q2 : n2 < 65536
  rotate_left
  · have e2 : (65536 : Int) ≤ (n2 : Int) := by omega
    simp [st1068, bad1068, b1068_2, hlt, hc, hp, hFr, rowBox, u64s, strs, e0, e1, e2]
  have e2 : ¬ (65536 : Int) ≤ (n2 : Int) := by omega
  by_cases q3 : 1 ≤ n3
  rotate_left
  · have e3 : (n3 : Int) < 1 := by omega
    simp [st1068, bad1068, b1068_2, hlt, hc, hp, hFr, rowBox, u64s, strs, e0, e1, e2, e3]
  have e3 : ¬ (n3 : Int) < 1 := by omega
  by_cases q4 : n3 ≤ 12
  rotate_left
  · have e4 : (12 : Int) < (n3 : Int) := by omega
    simp [st1068, bad1068, b1068_2, hlt, hc, hp, hFr, rowBox, u64s, strs, e0, e1, e2, e3, e4]
  have e4 : ¬ (12 : Int) < (n3 : Int) := by omega
  by_cases q5 : n4 < 4294967296
  rotate_left
  · have e5 : (4294967296 : Int) ≤ (n4 : Int) := by omega
    simp [st1068, bad1068, b1068_2, hlt, hc, hp, hFr, rowBox, u64s, strs, e0, e1, e2, e3, e4, e5]
  have e5 : ¬ (4294967296 : Int) ≤ (n4 : Int) := by omega
  by_cases q6 : n5 < 4294967296
  rotate_left
  · have e6 : (4294967296 : Int) ≤ (n5 : Int) := by omega
    simp [st1068, bad1068, b1068_2, hlt, hc, hp, hFr, rowBox, u64s, strs, e0, e1, e2, e3, e4, e5, e6]
  have e6 : ¬ (4294967296 : Int) ≤ (n5 : Int) := by omega
  by_cases q7 : n6 < 4294967296
  rotate_left
  · have e7 : (4294967296 : Int) ≤ (n6 : Int) := by omega
    simp [st1068, bad1068, b1068_2, hlt, hc, hp, hFr, rowBox, u64s, strs, e0, e1, e2, e3, e4, e5, e6, e7]
  have e7 : ¬ (4294967296 : Int) ≤ (n6 : Int) := by omega
  cases d with
  | true =>
    have hnm : nm ≠ [] := fun e => hb ⟨c0, q1, q2, q3, q4, q5, q6, q7, .inl rfl, e⟩
    have e9 : (nm != []) = true := by simpa using hnm
    simp [st1068, bad1068, b1068_2, hlt, hc, hp, hFr, rowBox, u64s, strs, e0, e1, e2, e3, e4, e5, e6, e7, e9, hnm]
  | false =>
    by_cases q8 : n8 = 0
    · have hnm : nm ≠ [] := fun e => hb ⟨c0, q1, q2, q3, q4, q5, q6, q7, .inr q8, e⟩
      have e9 : (nm != []) = true := by simpa using hnm
      subst q8
      simp only [Int.ofNat_zero, Int.natCast_zero] at hFr hc
      simp [st1068, bad1068, b1068_2, hlt, hc, hp, hFr, rowBox, u64s, strs, e0, e1, e2, e3, e4, e5, e6, e7, e9, hnm]
    · have e8 : ((n8 : Int) != 0) = true := by simpa using q8
      simp [st1068, bad1068, b1068_2, hlt, hc, hp, hFr, rowBox, u64s, strs, e0, e1, e2, e3, e4, e5, e6, e7, e8, q8]

end Go.Ev
