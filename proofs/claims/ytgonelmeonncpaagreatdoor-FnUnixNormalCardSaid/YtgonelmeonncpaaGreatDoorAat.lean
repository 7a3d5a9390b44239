/- Sockets of the Unix domain: what is written is read. -/
/- Numbers of other sizes; what the door of the Unix domain's sockets leans on. -/
/- Tables of sockets: addresses, the tree. -/
/- Sockets of the Unix domain: the tree. -/
/- Slabs: the door: numbers, blanks, a word in a text. -/
/- Sockets of the Unix domain: the door's reading. -/
import Derived.Test.YtgonelmeonncpaaGreatDoorAas
import Derived.Test.YtgonelmeonncpaaGreatDoorAar
import Derived.Test.YtgonelmeonncpaaGreatDoorAaf
import Derived.Test.YtgonelmeonncpaaGreatDoorAam
import Derived.Test.YtgonelmeonncpaaGreatDoorAaq
set_option linter.unusedSimpArgs false
set_option linter.unusedVariables false
namespace Go.Ev
open Go.Proofs

theorem hex_word {c : UInt8} (h : digitV c.toNat < 16) : wordC c = true ∧ c.toNat ≠ 58 := by
  have hb : (48 ≤ c.toNat ∧ c.toNat ≤ 57) ∨ (65 ≤ c.toNat ∧ c.toNat ≤ 70) ∨ (97 ≤ c.toNat ∧ c.toNat ≤ 102) := by
    unfold digitV at h
    (repeat' split at h) <;> omega
  unfold wordC
  simp only [Bool.and_eq_true, decide_eq_true_eq]
  omega

theorem isWord_parts {s : List UInt8} (h : isWord s = true) : s ≠ [] ∧ ∀ c ∈ s, wordC c = true := by
  unfold isWord at h
  simp only [Bool.and_eq_true, List.all_eq_true, Bool.not_eq_true', beq_eq_false_iff_ne, ne_eq] at h
  exact ⟨h.2, h.1⟩

theorem unName {r : RowD} {n0 n2 n3 n4 n5 : Nat} (h : UnR r n0 n2 n3 n4 n5) : r.name ≠ [] ∧ ∀ c ∈ r.name, wordC c = true ∧ c.toNat ≠ 58 := by
  cases hx : hexV r.name with
  | none => have := h.hx; rw [hx] at this; simp at this
  | some m =>
    obtain ⟨_, g2, _, _, g5⟩ := hexV_spec hx
    exact ⟨g2, fun c hc => hex_word (g5 c hc)⟩

theorem unBody_fields {r : RowD} {n0 n2 n3 n4 n5 : Nat} (h : UnR r n0 n2 n3 n4 n5) :
    fieldsL (unBody r) = (r.name ++ [58]) :: upS n0 8 :: upS 0 8 :: upS n2 8 :: upS n3 4 :: upS n4 2 :: decS n5 :: r.S := by
  rw [fieldsL_eq]
  obtain ⟨g1, g2⟩ := unName h
  have hS := h.hS
  have hN := h.hN
  obtain ⟨nm, N, S⟩ := r
  simp only at *
  subst hN
  unfold unBody unB0
  simp only
  have bl : ∀ {n : Nat}, ∀ c ∈ decS n, blankC c = false := fun c hc => ((decS_word _).2 c hc).1
  have bu : ∀ {n k : Nat}, ∀ c ∈ upS n k, blankC c = false := fun c hc => ((upS_word _ _).2 c hc).1
  simp only [List.append_assoc]
  rw [show ∀ x : List UInt8, nm ++ ([58, 32] ++ x) = (nm ++ [58]) ++ ([32] ++ x) from fun x => by simp]
  rw [fieldG_word1 ⟨by simp, fun c hc => by
    rcases List.mem_append.1 hc with hc | hc
    · exact (wordC_blank (g2 c hc).1).1
    · obtain rfl := List.mem_singleton.1 hc; decide⟩]
  rw [fieldG_word1 ⟨(upS_word _ _).1, bu⟩, fieldG_word1 ⟨(upS_word _ _).1, bu⟩, fieldG_word1 ⟨(upS_word _ _).1, bu⟩, fieldG_word1 ⟨(upS_word _ _).1, bu⟩, fieldG_word1 ⟨(upS_word _ _).1, bu⟩, fieldG_right]
  rcases hS with rfl | ⟨p, rfl, hp⟩
  · rw [show pathsS [] = [] from rfl, List.append_nil, fieldG_last (decS_word _).1 bl]
  · obtain ⟨p1, p2⟩ := isWord_parts hp
    rw [show pathsS [p] = [32] ++ p from by simp [pathsS], fieldG_word1 ⟨(decS_word _).1, bl⟩, fieldG_last p1 (fun c hc => (wordC_blank (p2 c hc)).1)]

theorem unLine_body {r : RowD} (h : unOk r = true) : unLineV (fieldsL (unBody r)) = some r := by
  obtain ⟨n0, n2, n3, n4, n5, hu⟩ := unOk_spec h
  have b0 := hu.h0; have b2 := hu.h2; have b3 := hu.h3; have b4 := hu.h4; have b5 := hu.h5
  rw [unBody_fields hu]
  have e0 : endsC (r.name ++ [58]) = true := by
    unfold endsC
    rw [List.length_append, show r.name.length + [(58 : UInt8)].length - 1 = r.name.length from by simp, List.drop_left]
    simp
  have e1 : (r.name ++ [58]).take ((r.name ++ [58]).length - 1) = r.name := by
    rw [List.length_append, show r.name.length + [(58 : UInt8)].length - 1 = r.name.length from by simp, List.take_left]
  have hx : hexsV [upS n0 8, upS 0 8, upS n2 8, upS n3 4, upS n4 2] = some [n0, 0, n2, n3, n4] := by
    simp only [hexsV, hexV_upS (show n0 < 18446744073709551616 by omega), hexV_upS (show 0 < 18446744073709551616 by omega), hexV_upS (show n2 < 18446744073709551616 by omega), hexV_upS (show n3 < 18446744073709551616 by omega), hexV_upS (show n4 < 18446744073709551616 by omega)]
  have hl : (((r.name ++ [58]) :: upS n0 8 :: upS 0 8 :: upS n2 8 :: upS n3 4 :: upS n4 2 :: decS n5 :: r.S).length = 7 ∨ ((r.name ++ [58]) :: upS n0 8 :: upS 0 8 :: upS n2 8 :: upS n3 4 :: upS n4 2 :: decS n5 :: r.S).length = 8) := by
    rcases hu.hS with e | ⟨p, e, _⟩
    · left; rw [e]; rfl
    · right; rw [e]; rfl
  unfold unLineV
  rw [if_pos ⟨hl, e0⟩]
  simp only [skFld, List.getD_cons_zero, List.getD_cons_succ, List.drop_succ_cons, List.drop_zero, hx, decV_decS (show n5 < 18446744073709551616 by omega), e1]
  have hN := hu.hN
  obtain ⟨nm, N, S⟩ := r
  simp only at hN
  rw [hN]
  rfl

theorem unTab_bodies : ∀ {rs : List RowD}, (∀ r ∈ rs, unOk r = true) → unTabV (rs.map unBody) = some rs
  | [], _ => rfl
  | r :: rs, h => by
    simp only [List.map_cons, unTabV, unLine_body (h r (by simp)), unTab_bodies (rs := rs) (fun q hq => h q (by simp [hq]))]

theorem unBody_chars {r : RowD} (h : unOk r = true) : ∀ c ∈ unBody r, c.toNat ≠ 10 ∧ plainC c = true := by
  obtain ⟨n0, n2, n3, n4, n5, hu⟩ := unOk_spec h
  obtain ⟨g1, g2⟩ := unName hu
  have hS := hu.hS
  have hN := hu.hN
  obtain ⟨nm, N, S⟩ := r
  simp only at *
  subst hN
  have bl : ∀ {n : Nat}, ∀ c ∈ decS n, c.toNat ≠ 10 ∧ plainC c = true := fun {n} c hc => by
    obtain ⟨_, g1, _⟩ := decS_dig n
    exact ⟨(digC_blank (g1 c hc)).2, digC_plain (g1 c hc)⟩
  have bu : ∀ {n k : Nat}, ∀ c ∈ upS n k, c.toNat ≠ 10 ∧ plainC c = true := fun {n k} c hc => by
    obtain ⟨_, g1, _⟩ := upS_hex n k
    exact plain_word (addrC_word (g1 c hc)).1
  have br : ∀ {n k : Nat}, ∀ c ∈ rightS (decS n) k, c.toNat ≠ 10 ∧ plainC c = true := fun {n k} c hc => by
    unfold rightS at hc
    rcases List.mem_append.1 hc with hc | hc
    · rw [(List.mem_replicate.1 hc).2]; decide
    · exact bl c hc
  have bn : ∀ c ∈ nm, c.toNat ≠ 10 ∧ plainC c = true := fun c hc => plain_word (g2 c hc).1
  have lit : ∀ l : List UInt8, l.all (fun c => decide (c.toNat ≠ 10) && plainC c) = true → ∀ c ∈ l, c.toNat ≠ 10 ∧ plainC c = true := fun l hl c hc => by
    have := List.all_eq_true.1 hl c hc
    simpa using this
  have bp : ∀ c ∈ pathsS S, c.toNat ≠ 10 ∧ plainC c = true := by
    rcases hS with rfl | ⟨p, rfl, hp⟩
    · intro c hc; simp [pathsS] at hc
    · obtain ⟨p1, p2⟩ := isWord_parts hp
      intro c hc
      rw [show pathsS [p] = 32 :: p from by simp [pathsS]] at hc
      rcases List.mem_cons.1 hc with rfl | hc
      · decide
      · exact plain_word (p2 c hc)
  have app : ∀ {x y : List UInt8}, (∀ c ∈ x, c.toNat ≠ 10 ∧ plainC c = true) → (∀ c ∈ y, c.toNat ≠ 10 ∧ plainC c = true) → ∀ c ∈ x ++ y, c.toNat ≠ 10 ∧ plainC c = true := fun hx hy c hc => by
    rcases List.mem_append.1 hc with hc | hc
    · exact hx c hc
    · exact hy c hc
  unfold unBody unB0
  simp only
  exact app (app bn (app (lit _ (by decide)) (app bu (app (lit _ (by decide)) (app bu (app (lit _ (by decide)) (app bu (app (lit _ (by decide)) (app bu (app (lit _ (by decide)) (app bu (app (lit _ (by decide)) br)))))))))))) bp

theorem unText_lines {rs : List RowD} (h : ∀ r ∈ rs, unOk r = true) : linesL ((rs.map fun r => unBody r ++ [10]).flatten) = rs.map unBody := by
  rw [linesL_eq]
  have e : (rs.map fun r => unBody r ++ [10]) = (rs.map unBody).map fun l => l ++ [10] := by rw [List.map_map]; rfl
  rw [e]
  exact lineG_lines _ (fun l hl c hc => by
    obtain ⟨r, hr, rfl⟩ := List.mem_map.1 hl
    exact (unBody_chars (h r hr) c hc).1)

theorem unRead_text {rs : List RowD} (h : ∀ r ∈ rs, unOk r = true) : unRead (unText rs) = some rs := by
  unfold unRead
  have hp : (unText rs).all plainC = true := by
    rw [List.all_eq_true]
    intro c hc
    unfold unText at hc
    rcases List.mem_append.1 hc with hc | hc
    · have : unHead.all plainC = true := by decide
      exact List.all_eq_true.1 this c hc
    · obtain ⟨l, hl, hcl⟩ := List.mem_flatten.1 hc
      obtain ⟨r, hr, rfl⟩ := List.mem_map.1 hl
      rcases List.mem_append.1 hcl with hcl | hcl
      · exact (unBody_chars (h r hr) c hcl).2
      · obtain rfl := List.mem_singleton.1 hcl; decide
  have ht : (unText rs).take 56 = unHead := by unfold unText; rw [show 56 = unHead.length from rfl, List.take_left]
  have hdp : (unText rs).drop 56 = (rs.map fun r => unBody r ++ [10]).flatten := by unfold unText; rw [show 56 = unHead.length from rfl, List.drop_left]
  rw [if_pos ⟨hp, ht⟩, hdp, unText_lines h, unTab_bodies h]
  have : rs.all unOk = true := List.all_eq_true.2 h
  simp only [this, if_true]

end Go.Ev

set_option linter.unusedSimpArgs false
set_option linter.unusedVariables false
namespace Go.Ev
open Go.Proofs

set_option maxRecDepth 100000 in
set_option maxHeartbeats 4000000 in
theorem loop125m (E : Env) (cf : CallF) (M : Nat) (hM : M < 18446744073709551616) (h135 : Has E 217 S135) (s0 s : List UInt8) (hs : s.length < 1000000000000) (m : Nat) :
    ∀ (rest pre : List UInt8) (a k : Nat), s = pre ++ rest → (∀ c ∈ rest, digitV c.toNat < 16) → hexN a rest ≤ M → rest.length < k →
      rounds (evC E cf m b125_0) k { tm := [.sv .undef, .sv (.int .i64 16)] ++ List.replicate 6 (.sv .undef) ++ [.sv (.bool false), .sv (.str s0), .sv (.int .u64 1152921504606846976), .sv (.int .u64 (M : Int)), .sv (.bool false), .sv (.int .u64 a)] ++ List.replicate 85 (.sv .undef) ++ [.sv (.sl (bytesSV s)), .sv (.int .i64 s.length), .sv (.int .i64 pre.length)] ++ List.replicate 70 (.sv .undef), lz := none, bx := [], df := [] } =
        some (.exit 3, { tm := List.replicate 9 (.sv .undef) ++ [.sv (.str s0), .sv .undef, .sv .undef, .sv (.bool false), .sv (.int .u64 (hexN a rest : Nat))] ++ List.replicate 158 (.sv .undef), lz := none, bx := [], df := [] }) := by
  obtain ⟨F, hp, hF⟩ := h135
  intro rest
  induction rest with
  | nil =>
    intro pre a k hsp hr ha hk
    obtain ⟨k, rfl⟩ : ∃ k', k = k' + 1 := ⟨k - 1, by omega⟩
    have hlt : ¬ (pre.length < s.length) := by rw [hsp]; simp
    refine rounds_out ?_ (by simp)
    simp [b125_0, List.replicate, hlt, hexN_nil]
  | cons c rest ih =>
    intro pre a k hsp hr ha hk
    obtain ⟨k, rfl⟩ : ∃ k', k = k' + 1 := ⟨k - 1, by omega⟩
    have hlt : pre.length < s.length := by rw [hsp]; simp
    have hsl := congrArg List.length hsp
    simp only [List.length_append, List.length_cons] at hsl
    have hc : ∀ h : pre.length < (bytesSV s).length, (bytesSV s)[pre.length]'h = .int .u8 (c.toNat : Int) := by subst hsp; simp [bytesSV]
    have hw2 : IntKind.i64.wrap ((pre.length : Int) + 1) = ((pre ++ [c]).length : Int) := by rw [IntKind.wrap_i64]; simp; omega
    have hd16 := hr c (by simp)
    have hFc := hF c
    rw [hexN_cons] at ha ⊢
    have hge := hexN_ge rest (a * 16 + digitV c.toNat)
    have h10 : ¬ (16 : Int) ≤ (digitV c.toNat : Int) := by omega
    have hcut : ¬ (1152921504606846976 : Int) ≤ (a : Int) := by omega
    have hw8 : IntKind.u8.wrap 16 = 16 := by rw [IntKind.wrap_u8]; omega
    have hw64 : IntKind.u64.wrap 16 = 16 := by rw [IntKind.wrap_u64]; omega
    have hw3 : IntKind.u64.wrap (digitV c.toNat : Int) = (digitV c.toNat : Int) := by rw [IntKind.wrap_u64]; omega
    have hw4 : IntKind.u64.wrap ((a : Int) * 16) = ((a * 16 : Nat) : Int) := by rw [IntKind.wrap_u64]; omega
    have hw5 : IntKind.u64.wrap (((a * 16 : Nat) : Int) + (digitV c.toNat : Int)) = ((a * 16 + digitV c.toNat : Nat) : Int) := by rw [IntKind.wrap_u64]; omega
    have q1 : ¬ (((a * 16 + digitV c.toNat : Nat) : Int) < ((a * 16 : Nat) : Int)) := by omega
    have q2 : ¬ ((M : Int) < ((a * 16 + digitV c.toNat : Nat) : Int)) := by omega
    have he := ih (pre ++ [c]) (a * 16 + digitV c.toNat) k (by rw [hsp]; simp) (fun x hx => hr x (by simp [hx])) ha (by simp at hk; omega)
    rw [← he]
    refine rounds_step ?_
    by_cases hlet : 10 ≤ digitV c.toNat
    · have hFv := hFc hlet hd16
      have hl := hexLetter hlet hd16
      have e95 : ((c.toNat : Int) == 95) = false := by rw [Bool.eq_false_iff]; simp; omega
      have e48 : (48 : Int) ≤ (c.toNat : Int) := by omega
      have e57 : ¬ (c.toNat : Int) ≤ 57 := by omega
      have f1 : (97 : Int) ≤ ((digitV c.toNat + 87 : Nat) : Int) := by omega
      have f2 : ((digitV c.toNat + 87 : Nat) : Int) ≤ 122 := by omega
      have f3 : IntKind.u8.wrap (IntKind.u8.wrap (((digitV c.toNat + 87 : Nat) : Int) - 97) + 10) = (digitV c.toNat : Int) := by rw [IntKind.wrap_u8, IntKind.wrap_u8]; omega
      generalize digitV c.toNat = d at *
      generalize (a * 16 + d) = a2 at *
      generalize (a * 16) = a1 at *
      generalize ((d + 87 : Nat) : Int) = d87 at *
      simp [b125_0, List.replicate, hlt, bytesSV_length, hc, hp, hFv, e95, e48, e57, f1, f2, f3, h10, hcut, hw8, hw64, hw2, hw3, hw4, hw5, q1, q2]
    · have hl : 48 ≤ c.toNat ∧ c.toNat ≤ 57 ∧ digitV c.toNat = c.toNat - 48 := by
        unfold digitV at hlet hd16 ⊢
        (repeat' split at hlet) <;> (repeat' split at hd16) <;> (repeat' split) <;> omega
      have e95 : ((c.toNat : Int) == 95) = false := by rw [Bool.eq_false_iff]; simp; omega
      have e48 : (48 : Int) ≤ (c.toNat : Int) := by omega
      have e57 : (c.toNat : Int) ≤ 57 := by omega
      have hs8 : IntKind.u8.wrap ((c.toNat : Int) - 48) = (digitV c.toNat : Int) := by rw [IntKind.wrap_u8]; omega
      generalize digitV c.toNat = d at *
      generalize (a * 16 + d) = a2 at *
      generalize (a * 16) = a1 at *
      simp [b125_0, List.replicate, hlt, bytesSV_length, hc, hs8, e95, e48, e57, h10, hcut, hw8, hw64, hw2, hw3, hw4, hw5, q1, q2]


def S125v (F : List SV → Option AV) : Prop :=
  (∀ s : List UInt8, s.length < 1000000000000 → s ≠ [] → (∀ c ∈ s, digitV c.toNat < 16) → ∀ (b : Int) (M : Nat), (b = 8 ∧ M = 255) ∨ (b = 16 ∧ M = 65535) ∨ (b = 32 ∧ M = 4294967295) ∨ (b = 64 ∧ M = 18446744073709551615) → hexN 0 s ≤ M → F [.str s, .int .i64 16, .int .i64 b] = some (.sv (.tup [.int .u64 (hexN 0 s : Nat), .nilI]))) ∧
  (∀ n : Nat, n < 18446744073709551616 → F [.str (decS n), .int .i64 10, .int .i64 64] = some (.sv (.tup [.int .u64 (n : Int), .nilI])))

set_option maxRecDepth 100000 in
set_option maxHeartbeats 4000000 in
theorem ev125v (E : Env) (h : E.code 199 = some c125) (h135 : Has E 217 S135) : S125v (autoF E 199) := by
  refine ⟨fun s hs hne hd b M hbM hv => ?_, fun n hn => ?_⟩
  · have hM : M < 18446744073709551616 := by omega
    have hl := loop125m E (evF E (s.length + 1)) M hM h135 s s hs (s.length + 1) s [] 0 (s.length + 1) rfl hd hv (by omega)
    refine autoF_sv (n := s.length + 1) ?_ rfl
    unfold evP
    simp only [h]
    simp only [List.replicate, List.cons_append, List.nil_append, List.length_nil, Int.ofNat_zero, Int.natCast_zero] at hl
    generalize hexN 0 s = v at *
    rcases hbM with ⟨rfl, rfl⟩ | ⟨rfl, rfl⟩ | ⟨rfl, rfl⟩ | ⟨rfl, rfl⟩
    · have hsh : IntKind.u64.wrap (IntKind.u64.wrap (2 ^ min 8 IntKind.u64.bits) - 1) = 255 := by decide
      have hsh0 : IntKind.u64.wrap 8 = 8 := by decide
      rw [show ((255 : Nat) : Int) = 255 from rfl] at hl
      simp [c125, List.replicate, hne, hsh, hsh0, bytesSV_length, hl]
    · have hsh : IntKind.u64.wrap (IntKind.u64.wrap (2 ^ min 16 IntKind.u64.bits) - 1) = 65535 := by decide
      have hsh0 : IntKind.u64.wrap 16 = 16 := by decide
      rw [show ((65535 : Nat) : Int) = 65535 from rfl] at hl
      simp [c125, List.replicate, hne, hsh, hsh0, bytesSV_length, hl]
    · have hsh : IntKind.u64.wrap (IntKind.u64.wrap (2 ^ min 32 IntKind.u64.bits) - 1) = 4294967295 := by decide
      have hsh0 : IntKind.u64.wrap 32 = 32 := by decide
      rw [show ((4294967295 : Nat) : Int) = 4294967295 from rfl] at hl
      simp [c125, List.replicate, hne, hsh, hsh0, bytesSV_length, hl]
    · have hsh : IntKind.u64.wrap (IntKind.u64.wrap (2 ^ min 64 IntKind.u64.bits) - 1) = 18446744073709551615 := by decide
      have hsh0 : IntKind.u64.wrap 64 = 64 := by decide
      rw [show ((18446744073709551615 : Nat) : Int) = 18446744073709551615 from rfl] at hl
      simp [c125, List.replicate, hne, hsh, hsh0, bytesSV_length, hl]
  · have hsh : IntKind.u64.wrap (IntKind.u64.wrap (2 ^ min 64 IntKind.u64.bits) - 1) = 18446744073709551615 := by decide
    have hsh0 : IntKind.u64.wrap 64 = 64 := by decide
    obtain ⟨g1, g2, g3⟩ := decS_dig n
    have hlen := decS_len20 hn
    have hl := loop125b E (evF E ((decS n).length + 1)) false (decS n) (decS n) (by omega) ((decS n).length + 1) (decS n) [] 0 ((decS n).length + 1) rfl g2 (by rw [g1]; exact hn) (by omega)
    rw [g1] at hl
    refine autoF_sv (n := (decS n).length + 1) ?_ rfl
    unfold evP
    simp only [h]
    generalize decS n = s at *
    simp only [List.replicate, List.cons_append, List.nil_append, List.length_nil, Int.ofNat_zero, Int.natCast_zero] at hl
    simp [c125, List.replicate, g3, hsh, hsh0, bytesSV_length, hl]

def S91v (F : List SV → Option AV) : Prop := S125v F

theorem ev91v (E : Env) (h : E.code 136 = some c91) (h125 : Has E 199 S125v) : S91v (autoF E 136) := by
  obtain ⟨F, hp, hF1, hF2⟩ := h125
  refine ⟨fun s hs hne hd b M hbM hv => ?_, fun n hn => ?_⟩
  · have := hF1 s hs hne hd b M hbM hv
    refine autoF_sv (n := 1) ?_ rfl
    unfold evP
    simp only [h]
    generalize hexN 0 s = v at *
    simp [c91, List.replicate, hp, this]
  · have := hF2 n hn
    refine autoF_sv (n := 1) ?_ rfl
    unfold evP
    simp only [h]
    generalize decS n = v at *
    simp [c91, List.replicate, hp, this]

/-- A small hexadecimal number, read as one with a sign, of 8 bits. -/
def S154h (F : List SV → Option AV) : Prop := ∀ s : List UInt8, s.length < 1000000000 → s ≠ [] → (∀ c ∈ s, digitV c.toNat < 16) → hexN 0 s < 128 → F [.str s, .int .i64 16, .int .i64 8] = some (.sv (.tup [.int .i64 (hexN 0 s : Nat), .nilI]))

theorem ev154h (E : Env) (h : E.code 231 = some c154) (h125 : Has E 199 S125v) : S154h (autoF E 231) := by
  obtain ⟨F, hp, hF, _⟩ := h125
  intro s hs hne hd hv
  have hF1 := hF s (by omega) hne hd 8 255 (.inl ⟨rfl, rfl⟩) (by omega)
  have hsh : IntKind.u64.wrap (2 ^ min 7 IntKind.u64.bits) = 128 := by decide
  have hw7 : IntKind.i64.wrap 7 = 7 := by decide
  have hw7u : IntKind.u64.wrap 7 = 7 := by decide
  generalize hexN 0 s = v at *
  have q1 : ¬ (128 : Int) ≤ (v : Int) := by omega
  have w1 : IntKind.i64.wrap (v : Int) = (v : Int) := by rw [IntKind.wrap_i64]; omega
  refine autoF_sv (n := 1) ?_ rfl
  unfold evP
  simp only [h]
  cases s with
  | nil => exact absurd rfl hne
  | cons c t =>
    have hc := hex_word (hd c (by simp))
    have hcb : (48 ≤ c.toNat ∧ c.toNat ≤ 57) ∨ (65 ≤ c.toNat ∧ c.toNat ≤ 70) ∨ (97 ≤ c.toNat ∧ c.toNat ≤ 102) := by
      have h := hd c (by simp)
      unfold digitV at h
      (repeat' split at h) <;> omega
    have e1 : ((c.toNat : Int) == 43) = false := by rw [Bool.eq_false_iff]; simp; omega
    have e2 : ((c.toNat : Int) == 45) = false := by rw [Bool.eq_false_iff]; simp; omega
    have b3 : (0 : Int) < (t.length : Int) + 1 := by omega
    have b4 : (0 : Int) ≤ (t.length : Int) + 1 := by omega
    simp [c154, List.replicate, hp, hF1, e1, e2, b3, b4, hsh, hw7, hw7u, q1, w1]

def S1158h (F : List SV → Option AV) : Prop := S154h F

theorem ev1158h (E : Env) (h : E.code 214 = some c1158) (h154 : Has E 231 S154h) : S1158h (autoF E 214) := by
  obtain ⟨F, hp, hF⟩ := h154
  intro s hs hne hd hv
  have hF1 := hF s hs hne hd hv
  refine autoF_sv (n := 1) ?_ rfl
  unfold evP
  simp only [h]
  generalize hexN 0 s = v at *
  simp [c1158, List.replicate, hp, hF1]

/-! ### A suffix cut -/

def S2263 (F : List SV → Option AV) : Prop := ∀ s : List UInt8, s.length < 1000000000 → endsC s = true → F [.str s, .str [58]] = some (.sv (.bool true))

theorem ev2263 (E : Env) (h : E.code 263 = some c2263) : S2263 (autoF E 263) := by
  intro s hs he
  unfold endsC at he
  simp only [Bool.and_eq_true, decide_eq_true_eq, beq_iff_eq] at he
  obtain ⟨h1, h2⟩ := he
  have w1 : IntKind.i64.wrap ((s.length : Int) - 1) = ((s.length - 1 : Nat) : Int) := by rw [IntKind.wrap_i64]; omega
  have b1 : (1 : Int) ≤ (s.length : Int) := by omega
  have b2 : s.length - 1 ≤ s.length := by omega
  refine autoA_sv (n := 1) ?_ rfl
  unfold evPA
  simp only [h]
  generalize s.length - 1 = q at *
  simp [c2263, b1, w1, b2, h2]

def S2256 (F : List SV → Option AV) : Prop := ∀ s : List UInt8, s.length < 1000000000 → endsC s = true → F [.str s, .str [58]] = some (.sv (.str (s.take (s.length - 1))))

theorem ev2256 (E : Env) (h : E.code 256 = some c2256) (h63 : Has E 263 S2263) : S2256 (autoF E 256) := by
  obtain ⟨F, hp, hF⟩ := h63
  intro s hs he
  have hF1 := hF s hs he
  unfold endsC at he
  simp only [Bool.and_eq_true, decide_eq_true_eq, beq_iff_eq] at he
  obtain ⟨h1, h2⟩ := he
  have w1 : IntKind.i64.wrap ((s.length : Int) - 1) = ((s.length - 1 : Nat) : Int) := by rw [IntKind.wrap_i64]; omega
  have b2 : s.length - 1 ≤ s.length := by omega
  refine autoA_sv (n := 1) ?_ rfl
  unfold evPA
  simp only [h]
  generalize s.length - 1 = q at *
  simp [c2256, hp, hF1, w1, b2]

def S2243 (F : List SV → Option AV) : Prop := S2256 F

theorem ev2243 (E : Env) (h : E.code 243 = some c2243) (h56 : Has E 256 S2256) : S2243 (autoF E 243) := by
  obtain ⟨F, hp, hF⟩ := h56
  intro s hs he
  have hF1 := hF s hs he
  refine autoA_sv (n := 1) ?_ rfl
  unfold evPA
  simp only [h]
  generalize s.take (s.length - 1) = q at *
  simp [c2243, hp, hF1]

/-! ### The fields of a line -/

theorem hexV_parts {s : List UInt8} {v : Nat} (h : hexV s = some v) : s ≠ [] ∧ (∀ c ∈ s, digitV c.toNat < 16) ∧ hexN 0 s = v := by
  obtain ⟨_, g2, _, g4, g5⟩ := hexV_spec h
  exact ⟨g2, g5, g4.symm⟩

def S2244 (F : List SV → Option AV) : Prop := ∀ (x : SV) (s : List UInt8) (v : Nat), s.length < 1000000000 → hexV s = some v → v < 4294967296 → F [.agg [x], .str s] = some (.sv (.tup [.int .u64 (v : Int), .nilI]))

theorem ev2244 (E : Env) (h : E.code 244 = some c2244) (h91 : Has E 136 S91v) : S2244 (autoF E 244) := by
  obtain ⟨F, hp, hF, _⟩ := h91
  intro x s v hs hx hv
  obtain ⟨g1, g2, g3⟩ := hexV_parts hx
  have hF1 := hF s (by omega) g1 g2 32 4294967295 (.inr (.inr (.inl ⟨rfl, rfl⟩))) (by omega)
  rw [g3] at hF1
  refine autoA_sv (n := 1) ?_ rfl
  unfold evPA
  simp only [h]
  simp [c2244, hp, hF1]

def S2245 (F : List SV → Option AV) : Prop := ∀ (x : SV) (s : List UInt8) (v : Nat), s.length < 1000000000 → hexV s = some v → v < 4294967296 → F [.agg [x], .str s] = some (.sv (.tup [.int .u64 (v : Int), .nilI]))

theorem ev2245 (E : Env) (h : E.code 245 = some c2245) (h91 : Has E 136 S91v) : S2245 (autoF E 245) := by
  obtain ⟨F, hp, hF, _⟩ := h91
  intro x s v hs hx hv
  obtain ⟨g1, g2, g3⟩ := hexV_parts hx
  have hF1 := hF s (by omega) g1 g2 32 4294967295 (.inr (.inr (.inl ⟨rfl, rfl⟩))) (by omega)
  rw [g3] at hF1
  refine autoA_sv (n := 1) ?_ rfl
  unfold evPA
  simp only [h]
  simp [c2245, hp, hF1]

def S2246 (F : List SV → Option AV) : Prop := ∀ (x : SV) (s : List UInt8) (v : Nat), s.length < 1000000000 → hexV s = some v → v < 65536 → F [.agg [x], .str s] = some (.sv (.tup [.int .u64 (v : Int), .nilI]))

theorem ev2246 (E : Env) (h : E.code 246 = some c2246) (h91 : Has E 136 S91v) : S2246 (autoF E 246) := by
  obtain ⟨F, hp, hF, _⟩ := h91
  intro x s v hs hx hv
  obtain ⟨g1, g2, g3⟩ := hexV_parts hx
  have hF1 := hF s (by omega) g1 g2 16 65535 (.inr (.inl ⟨rfl, rfl⟩)) (by omega)
  rw [g3] at hF1
  refine autoA_sv (n := 1) ?_ rfl
  unfold evPA
  simp only [h]
  simp [c2246, hp, hF1]

def S2247 (F : List SV → Option AV) : Prop := ∀ (x : SV) (s : List UInt8) (v : Nat), s.length < 1000000000 → hexV s = some v → v < 128 → F [.agg [x], .str s] = some (.sv (.tup [.int .u64 (v : Int), .nilI]))

theorem ev2247 (E : Env) (h : E.code 247 = some c2247) (h58 : Has E 214 S1158h) : S2247 (autoF E 247) := by
  obtain ⟨F, hp, hF⟩ := h58
  intro x s v hs hx hv
  obtain ⟨g1, g2, g3⟩ := hexV_parts hx
  have hF1 := hF s hs g1 g2 (by omega)
  rw [g3] at hF1
  have w1 : IntKind.u64.wrap (v : Int) = (v : Int) := by rw [IntKind.wrap_u64]; omega
  refine autoA_sv (n := 1) ?_ rfl
  unfold evPA
  simp only [h]
  simp [c2247, hp, hF1, w1]

def S2248 (F : List SV → Option AV) : Prop := ∀ (x : SV) (n : Nat), n < 18446744073709551616 → F [.agg [x], .str (decS n)] = some (.sv (.tup [.int .u64 (n : Int), .nilI]))

theorem ev2248 (E : Env) (h : E.code 248 = some c2248) (h91 : Has E 136 S91v) : S2248 (autoF E 248) := by
  obtain ⟨F, hp, _, hF⟩ := h91
  intro x n hn
  have hF1 := hF n hn
  refine autoA_sv (n := 1) ?_ rfl
  unfold evPA
  simp only [h]
  generalize decS n = s at *
  simp [c2248, hp, hF1]

end Go.Ev

set_option linter.unusedSimpArgs false
set_option linter.unusedVariables false
namespace Go.Ev
open Go.Proofs

def S1114 (F : List SV → Option AV) : Prop := ∀ nm : List UInt8, F [.str nm] = some (.sv (nodeV nm 0 false 0 0 0 [] []))

def S35 (F : List SV → Option AV) : Prop := ∀ (nm : List UInt8) (u : Int), F [.str nm, .int .u64 u] = some (.sv (nodeV nm 3 false 0 u 0 [] []))

theorem ev35 (E : Env) (h : E.code 52 = some c35) : S35 (autoF E 52) := by
  intro nm u
  refine autoF_sv (n := 1) ?_ rfl
  unfold evP
  simp only [h]
  simp [c35, List.replicate, nodeV]

def S1116 (F : List SV → Option AV) : Prop := ∀ s : List UInt8, addrF s → F [.str s] = some (.sv (.str (addrV s)))

def st1116 (s : List UInt8) (acc : List SV) (i : Nat) (q : Int) : SA := { nt := 37, tm := [(5, .sv (.int .i64 q)), (4, .sv (.int .i64 i)), (3, accA 5 acc), (0, .sv (.str s))], lz := none, bx := [], df := [] }

def st1116' (s : List UInt8) (acc : List SV) (i : Nat) : SA := { nt := 37, tm := [(4, .sv (.int .i64 i)), (3, accA 5 acc), (0, .sv (.str s))], lz := none, bx := [], df := [] }

end Go.Ev

set_option linter.unusedSimpArgs false
set_option linter.unusedVariables false
namespace Go.Ev
open Go.Proofs

def unPath (S : List (List UInt8)) : List UInt8 := S.headD []

/-- A socket as a tree. -/
def unNode (r : RowD) : SV := match r.N with
  | [n0, n1, n2, n3, n4, n5] => nodeV [] 8 false 0 0 0 [] [nodeV [75, 101, 114, 110, 101, 108, 80, 116, 114] 5 false 0 0 0 r.name [], nodeV [82, 101, 102, 67, 111, 117, 110, 116] 3 false 0 (n0 : Int) 0 [] [], nodeV [80, 114, 111, 116, 111, 99, 111, 108] 3 false 0 (n1 : Int) 0 [] [], nodeV [70, 108, 97, 103, 115] 3 false 0 (n2 : Int) 0 [] [], nodeV [84, 121, 112, 101] 3 false 0 (n3 : Int) 0 [] [], nodeV [83, 116, 97, 116, 101] 3 false 0 (n4 : Int) 0 [] [], nodeV [73, 110, 111, 100, 101] 3 false 0 (n5 : Int) 0 [] [], nodeV [80, 97, 116, 104] 5 false 0 0 0 (unPath r.S) []]
  | _ => nodeV [] 8 false 0 0 0 [] []

def unTree (l : List RowD) : SV := nodeV [] 8 false 0 0 0 [] [nodeV [82, 111, 119, 115] 6 false 0 0 0 [] (l.map unNode)]

theorem unNode_node (r : RowD) : IsNode (unNode r) := by
  unfold unNode
  have key : ∀ nm kd u s, IsNode (nodeV nm kd false 0 u 0 s []) := fun nm kd u s => .mk _ _ _ _ _ _ _ _ (by simp) (by simp)
  split
  · refine .mk _ _ _ _ _ _ _ _ (by simp) fun k hk => ?_
    simp only [List.mem_cons, List.not_mem_nil, or_false] at hk
    rcases hk with rfl | rfl | rfl | rfl | rfl | rfl | rfl | rfl <;> exact key _ _ _ _
  · exact .mk _ _ _ _ _ _ _ _ (by simp) (by simp)

theorem unTree_node (l : List RowD) (hl : l.length < 100000000) : IsNode (unTree l) := by
  refine .mk _ _ _ _ _ _ _ _ (by simp) fun k hk => ?_
  simp only [List.mem_singleton] at hk
  subst hk
  refine .mk _ _ _ _ _ _ _ _ (by simpa using (by omega : l.length < 1000000000)) fun k hk => ?_
  obtain ⟨r, _, rfl⟩ := List.mem_map.1 hk
  exact unNode_node r

theorem snoc_get (B : List Box) (x : Box) : (B ++ [x])[B.length]? = some x := by simp

def st2032 (xs acc : List SV) (i : Nat) (z : Box) (bx : List Box) : SA := { nt := 68, tm := [(19, .sv (.int .i64 i)), (18, .sv (.int .i64 xs.length)), (17, .sv (.sl xs)), (4, accA 45 acc), (2, .ptr 0 0)], lz := none, bx := z :: bx, df := [] }

def stB2032 (xs acc : List SV) (i : Nat) (z : Box) (bx : List Box) (p : Nat) (ks : List SV) (j : Nat) : SA := { nt := 68, tm := [(29, .sv (.int .i64 j)), (28, .sv (.int .i64 6)), (27, .own 9 [.str [82, 101, 102, 67, 111, 117, 110, 116], .str [80, 114, 111, 116, 111, 99, 111, 108], .str [70, 108, 97, 103, 115], .str [84, 121, 112, 101], .str [83, 116, 97, 116, 101], .str [73, 110, 111, 100, 101]]), (19, .sv (.int .i64 i)), (18, .sv (.int .i64 xs.length)), (17, .sv (.sl xs)), (7, accA 45 ks), (6, .ptr p 0), (4, accA 45 acc), (2, .ptr 0 0)], lz := none, bx := z :: bx, df := [] }

set_option maxRecDepth 100000 in
set_option maxHeartbeats 16000000 in
theorem loopB2032 (E : Env) (cf : CallF) (m : Nat) (h35 : Has E 52 S35) (xs acc : List SV) (i : Nat) (z : Box) (bx : List Box) (p : Nat) (nm : List UInt8) (ss : SV) (n0 n2 n3 n4 n5 : Nat) (hp : (z :: bx)[p]? = some (.live [.sv (.str nm), .sv (.sl [.int .u64 (n0 : Int), .int .u64 0, .int .u64 (n2 : Int), .int .u64 (n3 : Int), .int .u64 (n4 : Int), .int .u64 (n5 : Int)]), .sv ss])) (hm : 7 < m) :
    roundsA (evCA E cf m b2032_1) m (stB2032 xs acc i z bx p [.agg [.str [75, 101, 114, 110, 101, 108, 80, 116, 114], .int .i64 5, .bool false, .int .i64 0, .int .u64 0, .flt .f64 0, .str nm, .sl []]] 0) = some (.exit 2, { nt := 68, tm := [(19, .sv (.int .i64 i)), (18, .sv (.int .i64 xs.length)), (17, .sv (.sl xs)), (7, accA 45 [.agg [.str [75, 101, 114, 110, 101, 108, 80, 116, 114], .int .i64 5, .bool false, .int .i64 0, .int .u64 0, .flt .f64 0, .str nm, .sl []], .agg [.str [82, 101, 102, 67, 111, 117, 110, 116], .int .i64 3, .bool false, .int .i64 0, .int .u64 (n0 : Int), .flt .f64 0, .str [], .sl []], .agg [.str [80, 114, 111, 116, 111, 99, 111, 108], .int .i64 3, .bool false, .int .i64 0, .int .u64 0, .flt .f64 0, .str [], .sl []], .agg [.str [70, 108, 97, 103, 115], .int .i64 3, .bool false, .int .i64 0, .int .u64 (n2 : Int), .flt .f64 0, .str [], .sl []], .agg [.str [84, 121, 112, 101], .int .i64 3, .bool false, .int .i64 0, .int .u64 (n3 : Int), .flt .f64 0, .str [], .sl []], .agg [.str [83, 116, 97, 116, 101], .int .i64 3, .bool false, .int .i64 0, .int .u64 (n4 : Int), .flt .f64 0, .str [], .sl []], .agg [.str [73, 110, 111, 100, 101], .int .i64 3, .bool false, .int .i64 0, .int .u64 (n5 : Int), .flt .f64 0, .str [], .sl []]]), (6, .ptr p 0), (4, accA 45 acc), (2, .ptr 0 0)], lz := none, bx := z :: bx, df := [] }) := by
  obtain ⟨FU, hpU, hU⟩ := h35
  have hU' : ∀ (nm : List UInt8) (u : Int), FU [.str nm, .int .u64 u] = some (.sv (.agg [.str nm, .int .i64 3, .bool false, .int .i64 0, .int .u64 u, .flt .f64 0, .str [], .sl []])) := hU
  clear hU
  obtain ⟨q, rfl⟩ : ∃ q, m = q + 1 + 1 + 1 + 1 + 1 + 1 + 1 := ⟨m - 7, by omega⟩
  generalize hM : q + 1 + 1 + 1 + 1 + 1 + 1 + 1 = M
  have w1 : IntKind.i64.wrap 1 = 1 := by decide
  have w2 : IntKind.i64.wrap 2 = 2 := by decide
  have w3 : IntKind.i64.wrap 3 = 3 := by decide
  have w4 : IntKind.i64.wrap 4 = 4 := by decide
  have w5 : IntKind.i64.wrap 5 = 5 := by decide
  have w6 : IntKind.i64.wrap 6 = 6 := by decide
  have s0 : evCA E cf M b2032_1 (stB2032 xs acc i z bx p [.agg [.str [75, 101, 114, 110, 101, 108, 80, 116, 114], .int .i64 5, .bool false, .int .i64 0, .int .u64 0, .flt .f64 0, .str nm, .sl []]] 0) = some (.normal, stB2032 xs acc i z bx p [.agg [.str [75, 101, 114, 110, 101, 108, 80, 116, 114], .int .i64 5, .bool false, .int .i64 0, .int .u64 0, .flt .f64 0, .str nm, .sl []], .agg [.str [82, 101, 102, 67, 111, 117, 110, 116], .int .i64 3, .bool false, .int .i64 0, .int .u64 (n0 : Int), .flt .f64 0, .str [], .sl []]] 1) := by
    simp [stB2032, b2032_1, hpU, hU', hp, accA, w1]
  have s1 : evCA E cf M b2032_1 (stB2032 xs acc i z bx p [.agg [.str [75, 101, 114, 110, 101, 108, 80, 116, 114], .int .i64 5, .bool false, .int .i64 0, .int .u64 0, .flt .f64 0, .str nm, .sl []], .agg [.str [82, 101, 102, 67, 111, 117, 110, 116], .int .i64 3, .bool false, .int .i64 0, .int .u64 (n0 : Int), .flt .f64 0, .str [], .sl []]] 1) = some (.normal, stB2032 xs acc i z bx p [.agg [.str [75, 101, 114, 110, 101, 108, 80, 116, 114], .int .i64 5, .bool false, .int .i64 0, .int .u64 0, .flt .f64 0, .str nm, .sl []], .agg [.str [82, 101, 102, 67, 111, 117, 110, 116], .int .i64 3, .bool false, .int .i64 0, .int .u64 (n0 : Int), .flt .f64 0, .str [], .sl []], .agg [.str [80, 114, 111, 116, 111, 99, 111, 108], .int .i64 3, .bool false, .int .i64 0, .int .u64 0, .flt .f64 0, .str [], .sl []]] 2) := by
    simp [stB2032, b2032_1, hpU, hU', hp, accA, w2]
  have s2 : evCA E cf M b2032_1 (stB2032 xs acc i z bx p [.agg [.str [75, 101, 114, 110, 101, 108, 80, 116, 114], .int .i64 5, .bool false, .int .i64 0, .int .u64 0, .flt .f64 0, .str nm, .sl []], .agg [.str [82, 101, 102, 67, 111, 117, 110, 116], .int .i64 3, .bool false, .int .i64 0, .int .u64 (n0 : Int), .flt .f64 0, .str [], .sl []], .agg [.str [80, 114, 111, 116, 111, 99, 111, 108], .int .i64 3, .bool false, .int .i64 0, .int .u64 0, .flt .f64 0, .str [], .sl []]] 2) = some (.normal, stB2032 xs acc i z bx p [.agg [.str [75, 101, 114, 110, 101, 108, 80, 116, 114], .int .i64 5, .bool false, .int .i64 0, .int .u64 0, .flt .f64 0, .str nm, .sl []], .agg [.str [82, 101, 102, 67, 111, 117, 110, 116], .int .i64 3, .bool false, .int .i64 0, .int .u64 (n0 : Int), .flt .f64 0, .str [], .sl []], .agg [.str [80, 114, 111, 116, 111, 99, 111, 108], .int .i64 3, .bool false, .int .i64 0, .int .u64 0, .flt .f64 0, .str [], .sl []], .agg [.str [70, 108, 97, 103, 115], .int .i64 3, .bool false, .int .i64 0, .int .u64 (n2 : Int), .flt .f64 0, .str [], .sl []]] 3) := by
    simp [stB2032, b2032_1, hpU, hU', hp, accA, w3]
  have s3 : evCA E cf M b2032_1 (stB2032 xs acc i z bx p [.agg [.str [75, 101, 114, 110, 101, 108, 80, 116, 114], .int .i64 5, .bool false, .int .i64 0, .int .u64 0, .flt .f64 0, .str nm, .sl []], .agg [.str [82, 101, 102, 67, 111, 117, 110, 116], .int .i64 3, .bool false, .int .i64 0, .int .u64 (n0 : Int), .flt .f64 0, .str [], .sl []], .agg [.str [80, 114, 111, 116, 111, 99, 111, 108], .int .i64 3, .bool false, .int .i64 0, .int .u64 0, .flt .f64 0, .str [], .sl []], .agg [.str [70, 108, 97, 103, 115], .int .i64 3, .bool false, .int .i64 0, .int .u64 (n2 : Int), .flt .f64 0, .str [], .sl []]] 3) = some (.normal, stB2032 xs acc i z bx p [.agg [.str [75, 101, 114, 110, 101, 108, 80, 116, 114], .int .i64 5, .bool false, .int .i64 0, .int .u64 0, .flt .f64 0, .str nm, .sl []], .agg [.str [82, 101, 102, 67, 111, 117, 110, 116], .int .i64 3, .bool false, .int .i64 0, .int .u64 (n0 : Int), .flt .f64 0, .str [], .sl []], .agg [.str [80, 114, 111, 116, 111, 99, 111, 108], .int .i64 3, .bool false, .int .i64 0, .int .u64 0, .flt .f64 0, .str [], .sl []], .agg [.str [70, 108, 97, 103, 115], .int .i64 3, .bool false, .int .i64 0, .int .u64 (n2 : Int), .flt .f64 0, .str [], .sl []], .agg [.str [84, 121, 112, 101], .int .i64 3, .bool false, .int .i64 0, .int .u64 (n3 : Int), .flt .f64 0, .str [], .sl []]] 4) := by
    simp [stB2032, b2032_1, hpU, hU', hp, accA, w4]
  have s4 : evCA E cf M b2032_1 (stB2032 xs acc i z bx p [.agg [.str [75, 101, 114, 110, 101, 108, 80, 116, 114], .int .i64 5, .bool false, .int .i64 0, .int .u64 0, .flt .f64 0, .str nm, .sl []], .agg [.str [82, 101, 102, 67, 111, 117, 110, 116], .int .i64 3, .bool false, .int .i64 0, .int .u64 (n0 : Int), .flt .f64 0, .str [], .sl []], .agg [.str [80, 114, 111, 116, 111, 99, 111, 108], .int .i64 3, .bool false, .int .i64 0, .int .u64 0, .flt .f64 0, .str [], .sl []], .agg [.str [70, 108, 97, 103, 115], .int .i64 3, .bool false, .int .i64 0, .int .u64 (n2 : Int), .flt .f64 0, .str [], .sl []], .agg [.str [84, 121, 112, 101], .int .i64 3, .bool false, .int .i64 0, .int .u64 (n3 : Int), .flt .f64 0, .str [], .sl []]] 4) = some (.normal, stB2032 xs acc i z bx p [.agg [.str [75, 101, 114, 110, 101, 108, 80, 116, 114], .int .i64 5, .bool false, .int .i64 0, .int .u64 0, .flt .f64 0, .str nm, .sl []], .agg [.str [82, 101, 102, 67, 111, 117, 110, 116], .int .i64 3, .bool false, .int .i64 0, .int .u64 (n0 : Int), .flt .f64 0, .str [], .sl []], .agg [.str [80, 114, 111, 116, 111, 99, 111, 108], .int .i64 3, .bool false, .int .i64 0, .int .u64 0, .flt .f64 0, .str [], .sl []], .agg [.str [70, 108, 97, 103, 115], .int .i64 3, .bool false, .int .i64 0, .int .u64 (n2 : Int), .flt .f64 0, .str [], .sl []], .agg [.str [84, 121, 112, 101], .int .i64 3, .bool false, .int .i64 0, .int .u64 (n3 : Int), .flt .f64 0, .str [], .sl []], .agg [.str [83, 116, 97, 116, 101], .int .i64 3, .bool false, .int .i64 0, .int .u64 (n4 : Int), .flt .f64 0, .str [], .sl []]] 5) := by
    simp [stB2032, b2032_1, hpU, hU', hp, accA, w5]
  have s5 : evCA E cf M b2032_1 (stB2032 xs acc i z bx p [.agg [.str [75, 101, 114, 110, 101, 108, 80, 116, 114], .int .i64 5, .bool false, .int .i64 0, .int .u64 0, .flt .f64 0, .str nm, .sl []], .agg [.str [82, 101, 102, 67, 111, 117, 110, 116], .int .i64 3, .bool false, .int .i64 0, .int .u64 (n0 : Int), .flt .f64 0, .str [], .sl []], .agg [.str [80, 114, 111, 116, 111, 99, 111, 108], .int .i64 3, .bool false, .int .i64 0, .int .u64 0, .flt .f64 0, .str [], .sl []], .agg [.str [70, 108, 97, 103, 115], .int .i64 3, .bool false, .int .i64 0, .int .u64 (n2 : Int), .flt .f64 0, .str [], .sl []], .agg [.str [84, 121, 112, 101], .int .i64 3, .bool false, .int .i64 0, .int .u64 (n3 : Int), .flt .f64 0, .str [], .sl []], .agg [.str [83, 116, 97, 116, 101], .int .i64 3, .bool false, .int .i64 0, .int .u64 (n4 : Int), .flt .f64 0, .str [], .sl []]] 5) = some (.normal, stB2032 xs acc i z bx p [.agg [.str [75, 101, 114, 110, 101, 108, 80, 116, 114], .int .i64 5, .bool false, .int .i64 0, .int .u64 0, .flt .f64 0, .str nm, .sl []], .agg [.str [82, 101, 102, 67, 111, 117, 110, 116], .int .i64 3, .bool false, .int .i64 0, .int .u64 (n0 : Int), .flt .f64 0, .str [], .sl []], .agg [.str [80, 114, 111, 116, 111, 99, 111, 108], .int .i64 3, .bool false, .int .i64 0, .int .u64 0, .flt .f64 0, .str [], .sl []], .agg [.str [70, 108, 97, 103, 115], .int .i64 3, .bool false, .int .i64 0, .int .u64 (n2 : Int), .flt .f64 0, .str [], .sl []], .agg [.str [84, 121, 112, 101], .int .i64 3, .bool false, .int .i64 0, .int .u64 (n3 : Int), .flt .f64 0, .str [], .sl []], .agg [.str [83, 116, 97, 116, 101], .int .i64 3, .bool false, .int .i64 0, .int .u64 (n4 : Int), .flt .f64 0, .str [], .sl []], .agg [.str [73, 110, 111, 100, 101], .int .i64 3, .bool false, .int .i64 0, .int .u64 (n5 : Int), .flt .f64 0, .str [], .sl []]] 6) := by
    simp [stB2032, b2032_1, hpU, hU', hp, accA, w6]
  have s6 : evCA E cf M b2032_1 (stB2032 xs acc i z bx p [.agg [.str [75, 101, 114, 110, 101, 108, 80, 116, 114], .int .i64 5, .bool false, .int .i64 0, .int .u64 0, .flt .f64 0, .str nm, .sl []], .agg [.str [82, 101, 102, 67, 111, 117, 110, 116], .int .i64 3, .bool false, .int .i64 0, .int .u64 (n0 : Int), .flt .f64 0, .str [], .sl []], .agg [.str [80, 114, 111, 116, 111, 99, 111, 108], .int .i64 3, .bool false, .int .i64 0, .int .u64 0, .flt .f64 0, .str [], .sl []], .agg [.str [70, 108, 97, 103, 115], .int .i64 3, .bool false, .int .i64 0, .int .u64 (n2 : Int), .flt .f64 0, .str [], .sl []], .agg [.str [84, 121, 112, 101], .int .i64 3, .bool false, .int .i64 0, .int .u64 (n3 : Int), .flt .f64 0, .str [], .sl []], .agg [.str [83, 116, 97, 116, 101], .int .i64 3, .bool false, .int .i64 0, .int .u64 (n4 : Int), .flt .f64 0, .str [], .sl []], .agg [.str [73, 110, 111, 100, 101], .int .i64 3, .bool false, .int .i64 0, .int .u64 (n5 : Int), .flt .f64 0, .str [], .sl []]] 6) = some (.exit 2, { nt := 68, tm := [(19, .sv (.int .i64 i)), (18, .sv (.int .i64 xs.length)), (17, .sv (.sl xs)), (7, accA 45 [.agg [.str [75, 101, 114, 110, 101, 108, 80, 116, 114], .int .i64 5, .bool false, .int .i64 0, .int .u64 0, .flt .f64 0, .str nm, .sl []], .agg [.str [82, 101, 102, 67, 111, 117, 110, 116], .int .i64 3, .bool false, .int .i64 0, .int .u64 (n0 : Int), .flt .f64 0, .str [], .sl []], .agg [.str [80, 114, 111, 116, 111, 99, 111, 108], .int .i64 3, .bool false, .int .i64 0, .int .u64 0, .flt .f64 0, .str [], .sl []], .agg [.str [70, 108, 97, 103, 115], .int .i64 3, .bool false, .int .i64 0, .int .u64 (n2 : Int), .flt .f64 0, .str [], .sl []], .agg [.str [84, 121, 112, 101], .int .i64 3, .bool false, .int .i64 0, .int .u64 (n3 : Int), .flt .f64 0, .str [], .sl []], .agg [.str [83, 116, 97, 116, 101], .int .i64 3, .bool false, .int .i64 0, .int .u64 (n4 : Int), .flt .f64 0, .str [], .sl []], .agg [.str [73, 110, 111, 100, 101], .int .i64 3, .bool false, .int .i64 0, .int .u64 (n5 : Int), .flt .f64 0, .str [], .sl []]]), (6, .ptr p 0), (4, accA 45 acc), (2, .ptr 0 0)], lz := none, bx := z :: bx, df := [] }) := by
    simp [stB2032, b2032_1, accA]
  rw [show roundsA (evCA E cf M b2032_1) M = roundsA (evCA E cf M b2032_1) (q + 1 + 1 + 1 + 1 + 1 + 1 + 1) from by rw [hM]]
  rw [roundsA_step s0, roundsA_step s1, roundsA_step s2, roundsA_step s3, roundsA_step s4, roundsA_step s5, roundsA_out s6 (by simp)]

def stP2032 (xs acc : List SV) (i : Nat) (z : Box) (bx : List Box) (ks : AV) (pa : List UInt8) (ss : List SV) (j : Nat) : SA := { nt := 68, tm := [(48, .sv (.int .i64 j)), (47, .sv (.int .i64 ss.length)), (46, .sv (.sl ss)), (19, .sv (.int .i64 i)), (18, .sv (.int .i64 xs.length)), (17, .sv (.sl xs)), (10, .sv (.str pa)), (7, ks), (4, accA 45 acc), (2, .ptr 0 0)], lz := none, bx := z :: bx, df := [] }

theorem loopP2032 (E : Env) (cf : CallF) (m : Nat) (xs acc : List SV) (i : Nat) (z : Box) (bx : List Box) (ks : AV) (S : List (List UInt8)) (hS : S.length ≤ 1) (hm : 2 < m) :
    roundsA (evCA E cf m b2032_0) m (stP2032 xs acc i z bx ks [] (strs S) 0) = some (.exit 4, { nt := 68, tm := [(19, .sv (.int .i64 i)), (18, .sv (.int .i64 xs.length)), (17, .sv (.sl xs)), (10, .sv (.str (unPath S))), (7, ks), (4, accA 45 acc), (2, .ptr 0 0)], lz := none, bx := z :: bx, df := [] }) := by
  obtain ⟨q, rfl⟩ : ∃ q, m = q + 1 + 1 := ⟨m - 2, by omega⟩
  generalize hM : q + 1 + 1 = M
  have w1 : IntKind.i64.wrap 1 = 1 := by decide
  rw [show roundsA (evCA E cf M b2032_0) M = roundsA (evCA E cf M b2032_0) (q + 1 + 1) from by rw [hM]]
  match S, hS with
  | [], _ =>
    refine roundsA_out ?_ (by simp)
    simp [stP2032, b2032_0, strs, unPath]
  | [p], _ =>
    have s0 : evCA E cf M b2032_0 (stP2032 xs acc i z bx ks [] (strs [p]) 0) = some (.normal, stP2032 xs acc i z bx ks p (strs [p]) 1) := by simp [stP2032, b2032_0, strs, w1]
    rw [roundsA_step s0]
    refine roundsA_out ?_ (by simp)
    simp [stP2032, b2032_0, strs, unPath]

set_option maxRecDepth 100000 in
set_option maxHeartbeats 40000000 in
theorem step2032 (E : Env) (cf : CallF) (m : Nat) (hm : 9 < m) (h33 : E.pure 50 = some F33) (h34 : E.pure 51 = some F34) (h35 : Has E 52 S35) (xs acc : List SV) (ha : acc.length < 1000000000) (r : RowD) (n0 n2 n3 n4 n5 : Nat) (hs : UnR r n0 n2 n3 n4 n5) (i : Nat) (hlt : i < xs.length) (hxl : xs.length < 1000000000)
    (hc : ∀ h : i < xs.length, xs[i]'h = .agg [.str r.name, .sl [.int .u64 (n0 : Int), .int .u64 0, .int .u64 (n2 : Int), .int .u64 (n3 : Int), .int .u64 (n4 : Int), .int .u64 (n5 : Int)], .sl (strs r.S)]) (z : Box) (bx : List Box) :
    evCA E cf m b2032_2 (st2032 xs acc i z bx) = some (.normal, st2032 xs (acc ++ [unNode r]) (i + 1) z (bx ++ [rowBox r])) := by
  have hSl : r.S.length ≤ 1 := by rcases hs.hS with e | ⟨p, e, _⟩ <;> rw [e] <;> simp
  have hw : IntKind.i64.wrap ((i : Int) + 1) = ((i + 1 : Nat) : Int) := by rw [IntKind.wrap_i64]; omega
  have hl1 : (acc.length + 1) * 96 ≤ 140737488355328 := by omega
  have hl2 : acc.length + 1 ≤ 140737488355328 := by omega
  have hN := hs.hN
  obtain ⟨nm, N, S⟩ := r
  simp only at hN hSl hc
  subst hN
  have hrb : rowBox ⟨nm, [n0, 0, n2, n3, n4, n5], S⟩ = .live [.sv (.str nm), .sv (.sl [.int .u64 (n0 : Int), .int .u64 0, .int .u64 (n2 : Int), .int .u64 (n3 : Int), .int .u64 (n4 : Int), .int .u64 (n5 : Int)]), .sv (.sl (strs S))] := rfl
  have hnode : unNode ⟨nm, [n0, 0, n2, n3, n4, n5], S⟩ = .agg [.str [], .int .i64 8, .bool false, .int .i64 0, .int .u64 0, .flt .f64 0, .str [], .sl [.agg [.str [75, 101, 114, 110, 101, 108, 80, 116, 114], .int .i64 5, .bool false, .int .i64 0, .int .u64 0, .flt .f64 0, .str nm, .sl []], .agg [.str [82, 101, 102, 67, 111, 117, 110, 116], .int .i64 3, .bool false, .int .i64 0, .int .u64 (n0 : Int), .flt .f64 0, .str [], .sl []], .agg [.str [80, 114, 111, 116, 111, 99, 111, 108], .int .i64 3, .bool false, .int .i64 0, .int .u64 0, .flt .f64 0, .str [], .sl []], .agg [.str [70, 108, 97, 103, 115], .int .i64 3, .bool false, .int .i64 0, .int .u64 (n2 : Int), .flt .f64 0, .str [], .sl []], .agg [.str [84, 121, 112, 101], .int .i64 3, .bool false, .int .i64 0, .int .u64 (n3 : Int), .flt .f64 0, .str [], .sl []], .agg [.str [83, 116, 97, 116, 101], .int .i64 3, .bool false, .int .i64 0, .int .u64 (n4 : Int), .flt .f64 0, .str [], .sl []], .agg [.str [73, 110, 111, 100, 101], .int .i64 3, .bool false, .int .i64 0, .int .u64 (n5 : Int), .flt .f64 0, .str [], .sl []], .agg [.str [80, 97, 116, 104], .int .i64 5, .bool false, .int .i64 0, .int .u64 0, .flt .f64 0, .str (unPath S), .sl []]]] := rfl
  rw [hrb, hnode]
  have hb := loopB2032 E cf m h35 xs acc i z (bx ++ [.live [.sv (.str nm), .sv (.sl [.int .u64 (n0 : Int), .int .u64 0, .int .u64 (n2 : Int), .int .u64 (n3 : Int), .int .u64 (n4 : Int), .int .u64 (n5 : Int)]), .sv (.sl (strs S))]]) (bx.length + 1) nm (.sl (strs S)) n0 n2 n3 n4 n5 (by simp) (by omega)
  have hp := fun ks => loopP2032 E cf m xs acc i z (bx ++ [.live [.sv (.str nm), .sv (.sl [.int .u64 (n0 : Int), .int .u64 0, .int .u64 (n2 : Int), .int .u64 (n3 : Int), .int .u64 (n4 : Int), .int .u64 (n5 : Int)]), .sv (.sl (strs S))]]) ks S hSl (by omega)
  simp only [stB2032, accA, Int.natCast_zero, Int.ofNat_zero] at hb
  simp only [stP2032, Int.natCast_zero, Int.ofNat_zero] at hp
  clear hnode hrb h35 hs hSl
  generalize unPath S = pa at *
  have hstl := strs_length S
  generalize strs S = ss at *
  cases acc with
  | nil =>
    simp only [accA] at hb hp
    simp [st2032, b2032_2, hlt, hc, h34, F34, hb, hp, h33, F33, nodeV, hw, accA]
  | cons y ys =>
    simp only [List.length_cons] at hl1 hl2
    simp only [accA] at hb hp
    simp [st2032, b2032_2, hlt, hc, h34, F34, hb, hp, h33, F33, nodeV, hw, accA, hl1, hl2]

theorem loop2032 (E : Env) (cf : CallF) (m : Nat) (hm : 9 < m) (h33 : E.pure 50 = some F33) (h34 : E.pure 51 = some F34) (h35 : Has E 52 S35) (xs : List SV) (hxl : xs.length < 100000000) (z : Box) :
    ∀ (rest : List RowD) (pre acc : List SV) (i : Nat) (bx : List Box) (k : Nat), xs = pre ++ rowsSV rest → i = pre.length → acc.length = i → (∀ r ∈ rest, unOk r = true) → rest.length < k →
      ∃ bx', roundsA (evCA E cf m b2032_2) k (st2032 xs acc i z bx) = some (.exit 0, { nt := 68, tm := [(4, accA 45 (acc ++ rest.map unNode)), (2, .ptr 0 0)], lz := none, bx := z :: bx', df := [] }) := by
  intro rest
  induction rest with
  | nil =>
    intro pre acc i bx k hsp hi ha _ hk
    obtain ⟨k, rfl⟩ : ∃ k', k = k' + 1 := ⟨k - 1, by omega⟩
    have hlt : ¬ (i < xs.length) := by rw [hsp, hi]; simp [rowsSV]
    refine ⟨bx, roundsA_out ?_ (by simp)⟩
    simp [st2032, b2032_2, hlt]
  | cons r rest ih =>
    intro pre acc i bx k hsp hi ha hr hk
    obtain ⟨k, rfl⟩ : ∃ k', k = k' + 1 := ⟨k - 1, by omega⟩
    have hlt : i < xs.length := by rw [hsp, hi]; simp [rowsSV]
    obtain ⟨n0, n2, n3, n4, n5, hu⟩ := unOk_spec (hr r (by simp))
    have hN := hu.hN
    have hc : ∀ h : i < xs.length, xs[i]'h = .agg [.str r.name, .sl [.int .u64 (n0 : Int), .int .u64 0, .int .u64 (n2 : Int), .int .u64 (n3 : Int), .int .u64 (n4 : Int), .int .u64 (n5 : Int)], .sl (strs r.S)] := by subst hi; subst hsp; simp [rowsSV, RowD.sv, hN, u64s]
    have hst := step2032 E cf m hm h33 h34 h35 xs acc (by omega) r n0 n2 n3 n4 n5 hu i hlt (by omega) hc z bx
    obtain ⟨bx', he⟩ := ih (pre ++ [r.sv]) (acc ++ [unNode r]) (i + 1) (bx ++ [rowBox r]) k (by rw [hsp]; simp [rowsSV]) (by simp [hi]) (by simp [ha]) (fun q hq => hr q (by simp [hq])) (by simp at hk; omega)
    refine ⟨bx', ?_⟩
    rw [roundsA_step hst, he]
    simp

def S2032 (F : List SV → Option AV) : Prop := ∀ l : List RowD, rowsFit3 l → l.all unOk = true → F [.sl (rowsSV l)] = some (.sv (.tup [unTree l, .int .i64 1]))

theorem ev2032 (E : Env) (h : E.code 32 = some c2032) (h81 : Has E 81 S2081) (h33 : E.pure 50 = some F33) (h34 : E.pure 51 = some F34) (h36 : E.pure 53 = some F36) (h35 : Has E 52 S35) : S2032 (autoF E 32) := by
  obtain ⟨F, hp, hF⟩ := h81
  intro l hl hok
  have hF1 := hF l hl
  rw [hok] at hF1
  have hlen : (rowsSV l).length = l.length := by simp [rowsSV]
  obtain ⟨bx', he⟩ := loop2032 E (evF E (l.length + 11)) (l.length + 11) (by omega) h33 h34 h35 (rowsSV l) (by rw [hlen]; exact hl.1) (.live [.sv (.str []), .sv (.int .i64 0), .sv (.bool false), .sv (.int .i64 0), .sv (.int .u64 0), .sv (.flt .f64 0), .sv (.str []), .sv .nilS]) l [] [] 0 [] (l.length + 11) rfl rfl rfl (List.all_eq_true.1 hok) (by omega)
  refine autoA_sv (n := l.length + 11) ?_ rfl
  unfold evPA
  simp only [h]
  rw [List.nil_append] at he
  unfold unTree
  simp only [st2032, accA, Int.ofNat_zero, Int.natCast_zero] at he
  generalize rowsSV l = R at *
  generalize l.map unNode = ks at he ⊢
  cases ks with
  | nil => simp only [accA] at he; simp [c2032, hp, hF1, he, h36, F36, h33, F33, nodeV]
  | cons y ys => simp only [accA] at he; simp [c2032, hp, hF1, he, h36, F36, h33, F33, nodeV]

end Go.Ev

set_option linter.unusedSimpArgs false
set_option linter.unusedVariables false
namespace Go.Ev
open Go.Proofs

def S125d (F : List SV → Option AV) : Prop := ∀ n : Nat, n < 18446744073709551616 → F [.str (decS n), .int .i64 10, .int .i64 64] = some (.sv (.tup [.int .u64 (n : Int), .nilI]))

set_option maxRecDepth 100000 in
set_option maxHeartbeats 4000000 in
theorem ev125d (E : Env) (h : E.code 199 = some c125) : S125d (autoF E 199) := by
  have hsh : IntKind.u64.wrap (IntKind.u64.wrap (2 ^ min 64 IntKind.u64.bits) - 1) = 18446744073709551615 := by decide
  have hsh0 : IntKind.u64.wrap 64 = 64 := by decide
  intro n hn
  obtain ⟨g1, g2, g3⟩ := decS_dig n
  have hlen := decS_len20 hn
  have hl := loop125b E (evF E ((decS n).length + 1)) false (decS n) (decS n) (by omega) ((decS n).length + 1) (decS n) [] 0 ((decS n).length + 1) rfl g2 (by rw [g1]; exact hn) (by omega)
  rw [g1] at hl
  refine autoF_sv (n := (decS n).length + 1) ?_ rfl
  unfold evP
  simp only [h]
  generalize decS n = s at *
  simp only [List.replicate, List.cons_append, List.nil_append, List.length_nil, Int.ofNat_zero, Int.natCast_zero] at hl
  simp [c125, List.replicate, g3, hsh, hsh0, bytesSV_length, hl]

def S154d (F : List SV → Option AV) : Prop := ∀ n : Nat, n < 4611686018427387904 → F [.str (decS n), .int .i64 10, .int .i64 64] = some (.sv (.tup [.int .i64 (n : Int), .nilI]))

theorem ev154d (E : Env) (h : E.code 231 = some c154) (h125 : Has E 199 S125d) : S154d (autoF E 231) := by
  obtain ⟨F, hp, hF⟩ := h125
  intro n hn
  have hF1 := hF n (by omega)
  obtain ⟨_, g2, g3⟩ := decS_dig n
  have hsh : IntKind.u64.wrap (2 ^ min 63 IntKind.u64.bits) = 9223372036854775808 := by decide
  have hw63 : IntKind.i64.wrap 63 = 63 := by decide
  have hw63u : IntKind.u64.wrap 63 = 63 := by decide
  have q1 : ¬ (9223372036854775808 : Int) ≤ (n : Int) := by omega
  have w1 : IntKind.i64.wrap (n : Int) = (n : Int) := by rw [IntKind.wrap_i64]; omega
  refine autoF_sv (n := 1) ?_ rfl
  unfold evP
  simp only [h]
  generalize decS n = s at *
  cases s with
  | nil => exact absurd rfl g3
  | cons c t =>
    have hc := digC_iff.1 (g2 c (by simp))
    have e1 : ((c.toNat : Int) == 43) = false := by rw [Bool.eq_false_iff]; simp; omega
    have e2 : ((c.toNat : Int) == 45) = false := by rw [Bool.eq_false_iff]; simp; omega
    have b3 : (0 : Int) < (t.length : Int) + 1 := by omega
    have b4 : (0 : Int) ≤ (t.length : Int) + 1 := by omega
    simp [c154, List.replicate, hp, hF1, e1, e2, b3, b4, hsh, hw63, hw63u, q1, w1]

def S1158 (F : List SV → Option AV) : Prop := S154d F

theorem ev1158 (E : Env) (h : E.code 214 = some c1158) (h154 : Has E 231 S154d) : S1158 (autoF E 214) := by
  obtain ⟨F, hp, hF⟩ := h154
  intro n hn
  have hF1 := hF n hn
  refine autoF_sv (n := 1) ?_ rfl
  unfold evP
  simp only [h]
  generalize decS n = s at *
  simp [c1158, List.replicate, hp, hF1]

/-! ### Blanks -/

def zB (c : UInt8) : Bool := decide (c.toNat = 32) || decide (c.toNat = 9) || decide (c.toNat = 10) || decide (c.toNat = 12) || decide (c.toNat = 13)

def S1167 (F : List SV → Option AV) : Prop := ∀ c : UInt8, F [.int .u8 (c.toNat : Int)] = some (.sv (.bool (zB c)))

/-- A text whose runs of blanks are single blanks; `p`: a blank is before it. -/
def spG : Bool → List UInt8 → List UInt8
  | _, [] => []
  | p, c :: t => if zB c = true then (if p then spG true t else 32 :: spG true t) else c :: spG false t

theorem spG_len : ∀ (s : List UInt8) (p : Bool), (spG p s).length ≤ s.length
  | [], p => by simp [spG]
  | c :: t, p => by
    have h1 := spG_len t true; have h2 := spG_len t false
    simp only [spG]
    split
    · split
      · simp; omega
      · simp; omega
    · simp; omega

def S1156 (F : List SV → Option AV) : Prop := ∀ s : List UInt8, s.length < 1000000000 → F [.str s] = some (.sv (.str (spG false s)))

def st1156 (s out : List UInt8) (i : Nat) : SA := { nt := 36, tm := [(4, .sv (.int .i64 i)), (3, .sv (.str out)), (0, .sv (.str s))], lz := none, bx := [], df := [] }

def S1166g (F : List SV → Option AV) : Prop := ∀ s w : List UInt8, s.length < 1000000000 → w.length < 1000000000 →
  ((∀ i, (s.drop i).take w.length ≠ w) → F [.str s, .str w] = some (.sv (.int .i64 (-1)))) ∧ (w.length ≤ s.length → s.take w.length = w → F [.str s, .str w] = some (.sv (.int .i64 0)))

def st1166 (s w : List UInt8) (i : Nat) : SA := { nt := 25, tm := [(5, .sv (.int .i64 i)), (1, .sv (.str w)), (0, .sv (.str s))], lz := none, bx := [], df := [] }

set_option maxHeartbeats 4000000 in
theorem step1166 (E : Env) (cf : CallF) (m : Nat) (s w : List UInt8) (hs : s.length < 1000000000) (hwl : w.length < 1000000000) (i : Nat) (hi : i + w.length ≤ s.length) :
    evCA E cf m b1166_0 (st1166 s w i) = if (s.drop i).take w.length = w then some (.ret, { nt := 25, tm := [(4, .sv (.int .i64 i))], lz := none, bx := [], df := [] }) else some (.normal, st1166 s w (i + 1)) := by
  have hw : IntKind.i64.wrap ((i : Int) + 1) = ((i + 1 : Nat) : Int) := by rw [IntKind.wrap_i64]; omega
  have hw2 : IntKind.i64.wrap ((i : Int) + (w.length : Int)) = ((i + w.length : Nat) : Int) := by rw [IntKind.wrap_i64]; omega
  have ht : (s.take (i + w.length)).drop i = (s.drop i).take w.length := by
    rw [List.drop_take, show i + w.length - i = w.length from by omega]
  have hle : (i : Int) ≤ (i : Int) + (w.length : Int) := by omega
  generalize hj : ((i + w.length : Nat) : Int) = j at *
  have hj0 : 0 ≤ j := by omega
  have hjt : j.toNat = i + w.length := by omega
  have hjl : j ≤ (s.length : Int) := by omega
  by_cases hc : (s.drop i).take w.length = w
  · rw [if_pos hc]
    rw [hc] at ht
    simp [st1166, b1166_0, hw2, hj0, hjt, hjl, hle, ht]
  · rw [if_neg hc]
    generalize (s.drop i).take w.length = v at *
    have hb : (v == w) = false := by simpa using hc
    simp [st1166, b1166_0, hw2, hj0, hjt, hjl, hle, ht, hc, hb, hw]

theorem out1166 (E : Env) (cf : CallF) (m : Nat) (s w : List UInt8) (hs : s.length < 1000000000) (hwl : w.length < 1000000000) (i : Nat) (hil : i ≤ s.length + 1) (hi : ¬ (i + w.length ≤ s.length)) :
    evCA E cf m b1166_0 (st1166 s w i) = some (.exit 0, { nt := 25, tm := [], lz := none, bx := [], df := [] }) := by
  have hw2 : IntKind.i64.wrap ((i : Int) + (w.length : Int)) = ((i + w.length : Nat) : Int) := by rw [IntKind.wrap_i64]; omega
  have hn : ¬ (((i + w.length : Nat) : Int) ≤ (s.length : Int)) := by omega
  generalize ((i + w.length : Nat) : Int) = j at *
  simp [st1166, b1166_0, hw2, hn]

theorem loop1166g (E : Env) (cf : CallF) (m : Nat) (s w : List UInt8) (hs : s.length < 1000000000) (hwl : w.length < 1000000000) (hno : ∀ i, (s.drop i).take w.length ≠ w) :
    ∀ (d i k : Nat), s.length + 1 - i ≤ d → i ≤ s.length + 1 → d < k → roundsA (evCA E cf m b1166_0) k (st1166 s w i) = some (.exit 0, { nt := 25, tm := [], lz := none, bx := [], df := [] }) := by
  intro d
  induction d with
  | zero =>
    intro i k hd hi hk
    obtain ⟨k, rfl⟩ : ∃ k', k = k' + 1 := ⟨k - 1, by omega⟩
    exact roundsA_out (out1166 E cf m s w hs hwl i hi (by omega)) (by simp)
  | succ d ih =>
    intro i k hd hi hk
    obtain ⟨k, rfl⟩ : ∃ k', k = k' + 1 := ⟨k - 1, by omega⟩
    by_cases h : i + w.length ≤ s.length
    · have hst := step1166 E cf m s w hs hwl i h
      rw [if_neg (hno i)] at hst
      rw [roundsA_step hst]
      exact ih (i + 1) k (by omega) (by omega) (by omega)
    · exact roundsA_out (out1166 E cf m s w hs hwl i hi h) (by simp)

theorem ev1166g (E : Env) (h : E.code 242 = some c1166) : S1166g (autoF E 242) := by
  intro s w hs hwl
  refine ⟨fun hno => ?_, fun hle hc => ?_⟩
  · have hl := loop1166g E (evF E (s.length + 2)) (s.length + 2) s w hs hwl hno (s.length + 1) 0 (s.length + 2) (by omega) (by omega) (by omega)
    refine autoA_sv (n := s.length + 2) ?_ rfl
    unfold evPA
    simp only [h]
    simp only [st1166, Int.ofNat_zero, Int.natCast_zero] at hl
    simp [c1166, hl]
  · have hst := step1166 E (evF E 1) 1 s w hs hwl 0 (by omega)
    rw [List.drop_zero, if_pos hc] at hst
    have hl : roundsA (evCA E (evF E 1) 1 b1166_0) (0 + 1) (st1166 s w 0) = _ := roundsA_out hst (by simp)
    refine autoA_sv (n := 1) ?_ rfl
    unfold evPA
    simp only [h]
    simp only [st1166, Int.ofNat_zero, Int.natCast_zero] at hl
    simp [c1166, hl]

def S1166b (F : List SV → Option AV) : Prop := S1166 F ∧ S1166g F

theorem ev1166b (E : Env) (h : E.code 242 = some c1166) : S1166b (autoF E 242) := ⟨ev1166 E h, ev1166g E h⟩

theorem has_fst {E : Env} {f : Nat} (h : Has E f S1166b) : Has E f S1166 := by
  obtain ⟨F, h1, h2, _⟩ := h
  exact ⟨F, h1, h2⟩

def S1155 (F : List SV → Option AV) : Prop := ∀ s w : List UInt8, s.length < 1000000000 → w.length < 1000000000 →
  ((∀ i, (s.drop i).take w.length ≠ w) → F [.str s, .str w] = some (.sv (.bool false))) ∧ (w.length ≤ s.length → s.take w.length = w → F [.str s, .str w] = some (.sv (.bool true)))

theorem ev1155 (E : Env) (h : E.code 227 = some c1155) (h66 : Has E 242 S1166b) : S1155 (autoF E 227) := by
  obtain ⟨F, hp, _, hF⟩ := h66
  intro s w hs hwl
  obtain ⟨h1, h2⟩ := hF s w hs hwl
  refine ⟨fun hno => ?_, fun hle hc => ?_⟩
  · have := h1 hno
    refine autoA_sv (n := 1) ?_ rfl
    unfold evPA
    simp only [h]
    simp [c1155, hp, this]
  · have := h2 hle hc
    refine autoA_sv (n := 1) ?_ rfl
    unfold evPA
    simp only [h]
    simp [c1155, hp, this]

end Go.Ev

set_option linter.unusedSimpArgs false
set_option linter.unusedVariables false
namespace Go.Ev
open Go.Proofs

/-- What the program holds of a socket. -/
def unCells (r : RowD) : List SV := match r.N with
  | [n0, n1, n2, n3, n4, n5] => [.str r.name, .int .u64 (n0 : Int), .int .u64 (n1 : Int), .int .u64 (n2 : Int), .int .u64 (n3 : Int), .int .u64 (n4 : Int), .int .u64 (n5 : Int), .str (unPath r.S)]
  | _ => []

def unVals (rs : List RowD) : List SV := rs.map fun r => .ref (unCells r)

/-- What is known of a line that the reference reads as a socket. -/
structure UnF (f : List (List UInt8)) (r : RowD) (n0 n2 n3 n4 n5 : Nat) (g0 g1 g2 g3 g4 g5 : List UInt8) : Prop where
  hf : f = g0 :: g1 :: g2 :: g3 :: g4 :: g5 :: decS n5 :: r.S
  he : endsC g0 = true
  hn : g0.take (g0.length - 1) = r.name
  x1 : hexV g1 = some n0
  x3 : hexV g3 = some n2
  x4 : hexV g4 = some n3
  x5 : hexV g5 = some n4

theorem unLine_facts {f : List (List UInt8)} {r : RowD} (h : unLineV f = some r) (ho : unOk r = true) : ∃ n0 n2 n3 n4 n5 g0 g1 g2 g3 g4 g5, UnR r n0 n2 n3 n4 n5 ∧ UnF f r n0 n2 n3 n4 n5 g0 g1 g2 g3 g4 g5 := by
  unfold unLineV at h
  by_cases hc : (f.length = 7 ∨ f.length = 8) ∧ endsC (skFld f 0) = true
  rotate_left
  · rw [if_neg hc] at h; cases h
  rw [if_pos hc] at h
  obtain ⟨g0, g1, g2, g3, g4, g5, g6, t, rfl, ht⟩ := len_fld hc.1
  split at h <;> try (simp at h; done)
  rename_i hs hx
  split at h <;> try (simp at h; done)
  rename_i d hd
  simp only [Option.some.injEq] at h
  subst h
  obtain ⟨y1, y2, y3, y4, y5, hl, k1, k2, k3, k4, k5⟩ := hexsV5 hx
  subst hl
  obtain ⟨n0, n2, n3, n4, n5, hu⟩ := unOk_spec ho
  have hN := hu.hN
  simp only [List.cons_append, List.nil_append, List.cons.injEq, and_true] at hN
  obtain ⟨rfl, rfl, rfl, rfl, rfl, rfl⟩ := hN
  have hd' := decV_dec hd
  simp only [skFld, List.getD_cons_zero, List.getD_cons_succ] at hd' k1 k2 k3 k4 k5
  refine ⟨_, _, _, _, _, g0, g1, g2, g3, g4, g5, hu, ?_, hc.2, rfl, k1, k3, k4, k5⟩
  rw [hd']
  rfl

def nuBox (acc : List SV) : Box := .live [match acc with | [] => .sv .nilS | x :: l => .own 213 (x :: l)]

theorem pair_get0 (x y : Box) (l : List Box) : (x :: y :: l)[0]? = some x := rfl

set_option maxRecDepth 100000 in
set_option maxHeartbeats 80000000 in
theorem core2228 (E : Env) (h : E.code 228 = some c2228) (FT F4 F5 F6 F7 F8 : List SV → Option AV) (h127 : E.pure 201 = some F127) (hT : E.pure 243 = some FT) (h4 : E.pure 244 = some F4) (h5 : E.pure 245 = some F5) (h6 : E.pure 246 = some F6) (h7 : E.pure 247 = some F7) (h8 : E.pure 248 = some F8)
    (line nm g0 g1 g2 g3 g4 g5 g6 pa : List UInt8) (n0 n2 n3 n4 n5 : Nat) (tl : List SV) (htl : (tl = [] ∧ pa = []) ∨ tl = [.str pa])
    (e127 : F127 [.str line] = some (.sv (.sl (.str g0 :: .str g1 :: .str g2 :: .str g3 :: .str g4 :: .str g5 :: .str g6 :: tl))))
    (eT : FT [.str g0, .str [58]] = some (.sv (.str nm)))
    (e4 : ∀ x, F4 [.agg [x], .str g1] = some (.sv (.tup [.int .u64 (n0 : Int), .nilI])))
    (e5 : ∀ x, F5 [.agg [x], .str g3] = some (.sv (.tup [.int .u64 (n2 : Int), .nilI])))
    (e6 : ∀ x, F6 [.agg [x], .str g4] = some (.sv (.tup [.int .u64 (n3 : Int), .nilI])))
    (e7 : ∀ x, F7 [.agg [x], .str g5] = some (.sv (.tup [.int .u64 (n4 : Int), .nilI])))
    (e8 : ∀ x, F8 [.agg [x], .str g6] = some (.sv (.tup [.int .u64 (n5 : Int), .nilI])))
    (sb : Box) (acc : List SV) (js : List Box) (n : Nat) :
    ∃ js', evF E (n + 1) 228 [.ptr 1 0, .sv (.str line), .sv (.bool true), .sv (.int .i64 7)] (sb :: nuBox acc :: js) = some (.sv (.tup [.ref [.str nm, .int .u64 (n0 : Int), .int .u64 0, .int .u64 (n2 : Int), .int .u64 (n3 : Int), .int .u64 (n4 : Int), .int .u64 (n5 : Int), .str pa], .nilI]), sb :: nuBox acc :: js') := by
  refine ⟨js ++ [.frz [.str nm, .int .u64 (n0 : Int), .int .u64 0, .int .u64 (n2 : Int), .int .u64 (n3 : Int), .int .u64 (n4 : Int), .int .u64 (n5 : Int), .str pa]], ?_⟩
  rw [evF_A]
  unfold evFA
  simp only [h]
  unfold nuBox
  rcases htl with ⟨rfl, rfl⟩ | rfl
  · cases acc with
    | nil => simp (maxSteps := 5000000) [c2228, h127, e127, hT, eT, h4, e4, h5, e5, h6, e6, h7, e7, h8, e8, snoc_set]
    | cons y ys => simp (maxSteps := 5000000) [c2228, h127, e127, hT, eT, h4, e4, h5, e5, h6, e6, h7, e7, h8, e8, snoc_set]
  · cases acc with
    | nil => simp (maxSteps := 5000000) [c2228, h127, e127, hT, eT, h4, e4, h5, e5, h6, e6, h7, e7, h8, e8, snoc_set]
    | cons y ys => simp (maxSteps := 5000000) [c2228, h127, e127, hT, eT, h4, e4, h5, e5, h6, e6, h7, e7, h8, e8, snoc_set]

structure UnH (E : Env) : Prop where
  h : E.code 228 = some c2228
  h127 : E.pure 201 = some F127
  hT : Has E 243 S2243
  h4 : Has E 244 S2244
  h5 : Has E 245 S2245
  h6 : Has E 246 S2246
  h7 : Has E 247 S2247
  h8 : Has E 248 S2248

theorem line2228 (E : Env) (H : UnH E) (line : List UInt8) (r : RowD) (hv : unLineV (fieldsL line) = some r) (ho : unOk r = true) (hll : line.length ≤ 40000) (hpl : ∀ c ∈ line, plainC c = true ∧ c.toNat ≠ 10) (sb : Box) (acc : List SV) (js : List Box) (n : Nat) :
    ∃ js', evF E (n + 1) 228 [.ptr 1 0, .sv (.str line), .sv (.bool true), .sv (.int .i64 7)] (sb :: nuBox acc :: js) = some (.sv (.tup [.ref (unCells r), .nilI]), sb :: nuBox acc :: js') := by
  obtain ⟨h, h127, ⟨FT, hT, sT⟩, ⟨F4, h4, s4⟩, ⟨F5, h5, s5⟩, ⟨F6, h6, s6⟩, ⟨F7, h7, s7⟩, ⟨F8, h8, s8⟩⟩ := H
  obtain ⟨n0, n2, n3, n4, n5, g0, g1, g2, g3, g4, g5, hu, hf⟩ := unLine_facts hv ho
  have b0 := hu.h0; have b2 := hu.h2; have b3 := hu.h3; have b4 := hu.h4; have b5 := hu.h5
  have e127 := F127_eq line (by omega) (fun c hc => (plain_lt (hpl c hc).1).1)
  rw [words_fields hpl] at e127
  obtain ⟨_, _, hsh⟩ := fieldsV_shape line
  have hfl : ∀ x ∈ fieldsL line, x.length ≤ 40000 := fun x hx => by have := hsh x hx; omega
  rw [hf.hf] at e127 hfl
  have z0 := hfl g0 (by simp); have z1 := hfl g1 (by simp); have z3 := hfl g3 (by simp); have z4 := hfl g4 (by simp); have z5 := hfl g5 (by simp)
  have eT := sT g0 (by omega) hf.he
  rw [hf.hn] at eT
  have hcl : unCells r = [.str r.name, .int .u64 (n0 : Int), .int .u64 0, .int .u64 (n2 : Int), .int .u64 (n3 : Int), .int .u64 (n4 : Int), .int .u64 (n5 : Int), .str (unPath r.S)] := by
    unfold unCells
    rw [hu.hN]
    rfl
  rw [hcl]
  simp only [strs, List.map_cons] at e127
  refine core2228 E h FT F4 F5 F6 F7 F8 h127 hT h4 h5 h6 h7 h8 line r.name g0 g1 g2 g3 g4 g5 (decS n5) (unPath r.S) n0 n2 n3 n4 n5 _ ?_ e127 eT (fun x => s4 x g1 n0 (by omega) hf.x1 b0) (fun x => s5 x g3 n2 (by omega) hf.x3 b2) (fun x => s6 x g4 n3 (by omega) hf.x4 (by omega)) (fun x => s7 x g5 n4 (by omega) hf.x5 (by omega)) (fun x => s8 x n5 (by omega)) sb acc js n
  rcases hu.hS with e | ⟨p, e, _⟩
  · left; rw [e]; exact ⟨rfl, rfl⟩
  · right; rw [e]; rfl

theorem unTab_cons {s : List UInt8} {rs : List RowD} (h : unTabV (lineG [] s) = some rs) : (s = [] ∧ rs = []) ∨ ∃ line rest r rs', (∀ c ∈ line, c.toNat ≠ 10) ∧ ((s = line ++ 10 :: rest) ∨ (s = line ∧ rest = [] ∧ line ≠ [])) ∧ unLineV (fieldsL line) = some r ∧ rs = r :: rs' ∧ unTabV (lineG [] rest) = some rs' := by
  rcases line_cases s with rfl | ⟨line, rest, h1, h2, h3⟩
  · left
    simp only [lineG, if_true, unTabV, Option.some.injEq] at h
    exact ⟨rfl, h.symm⟩
  · right
    rw [h2] at h
    simp only [unTabV] at h
    cases hv : unLineV (fieldsL line) with
    | none => rw [hv] at h; simp at h
    | some r =>
      rw [hv] at h
      cases ht : unTabV (lineG [] rest) with
      | none => rw [ht] at h; simp at h
      | some q =>
        rw [ht] at h
        simp only [Option.some.injEq] at h
        exact ⟨line, rest, r, q, h1, h3, hv, h.symm, ht⟩

theorem scanGb (E : Env) (h : E.code 133 = some c88) (s t line rest : List UInt8) (h1 : ∀ c ∈ line, c.toNat ≠ 10) (h3 : (s = line ++ 10 :: rest) ∨ (s = line ∧ rest = [] ∧ line ≠ [])) (hl : s.length < 65536) (hr : ∀ c ∈ s, c.toNat ≠ 13) (bs : List Box) (n : Nat) (hn : s.length < n) :
    evF E (n + 1) 133 [.ptr 0 0] (scanBox s t :: bs) = some (.sv (.bool true), scanBox rest line :: bs) := by
  rcases h3 with h3 | ⟨h3, h4, h5⟩
  · subst h3
    simp only [List.length_append, List.length_cons] at hl hn
    exact scan88 E h 0 (scanBox (line ++ 10 :: rest) t :: bs) line rest t rfl (by omega) (by omega) (fun c hc => ⟨h1 c hc, hr c (by simp [hc])⟩) n (by omega)
  · subst h4
    rw [h3]
    rw [h3] at hl hr hn
    exact scan88n E h 0 (scanBox line t :: bs) line t rfl h5 hl (fun c hc => ⟨h1 c hc, hr c hc⟩) n hn

def st2207 (s t : List UInt8) (acc : List SV) (js : List Box) : SA := { nt := 47, tm := [(7, .ptr 1 0), (6, .sv (.int .i64 7)), (5, .sv (.bool true)), (4, .ptr 0 0)], lz := none, bx := scanBox s t :: nuBox acc :: js, df := [] }

set_option maxHeartbeats 4000000 in
theorem loop2207 (E : Env) (N m : Nat) (H : UnH E) (h88 : E.code 133 = some c88) (h90 : E.code 135 = some c90) (hp88 : E.pure 133 = none) (hp90 : E.pure 135 = none) (hp28 : E.pure 228 = none) :
    ∀ (rs : List RowD) (s t : List UInt8) (acc : List SV) (js : List Box) (k : Nat), unTabV (lineG [] s) = some rs → (∀ c ∈ s, plainC c = true) → (∀ r ∈ rs, unOk r = true) → s.length ≤ 40000 → s.length < N → acc.length + rs.length < 1000000000 → rs.length < k →
      ∃ js', roundsA (evCA E (evF E (N + 1)) m b2207_0) k (st2207 s t acc js) =
        some (.exit 0, { nt := 47, tm := [(7, .ptr 1 0), (4, .ptr 0 0)], lz := none, bx := scanBox [] [] :: nuBox (acc ++ unVals rs) :: js', df := [] }) := by
  intro rs
  induction rs with
  | nil =>
    intro s t acc js k hn hpl _ hl hN ha hk
    obtain ⟨k, rfl⟩ : ∃ k', k = k' + 1 := ⟨k - 1, by omega⟩
    rcases unTab_cons hn with ⟨rfl, _⟩ | ⟨line, rest, r, rs', _, _, _, e, _⟩
    · have hs := scan88e E h88 0 (scanBox [] t :: nuBox acc :: js) t rfl N
      simp only [List.set_cons_zero] at hs
      refine ⟨js, roundsA_out ?_ (by simp)⟩
      simp [b2207_0, st2207, hp88, hs, unVals]
    · cases e
  | cons r rs ih =>
    intro s t acc js k hn hpl hok hl hN ha hk
    obtain ⟨k, rfl⟩ : ∃ k', k = k' + 1 := ⟨k - 1, by omega⟩
    rcases unTab_cons hn with ⟨_, e⟩ | ⟨line, rest, r', rs', h1, h3, hv, e, hn'⟩
    · cases e
    · simp only [List.cons.injEq] at e
      obtain ⟨rfl, rfl⟩ := e
      have hll : line.length ≤ s.length ∧ rest.length ≤ s.length ∧ (∀ c ∈ line, plainC c = true) ∧ (∀ c ∈ rest, plainC c = true) := by
        rcases h3 with rfl | ⟨rfl, rfl, _⟩
        · refine ⟨by simp, by simp; omega, fun c hc => hpl c (by simp [hc]), fun c hc => hpl c (by simp [hc])⟩
        · exact ⟨by omega, by simp, hpl, by simp⟩
      obtain ⟨l1, l2, l3, l4⟩ := hll
      have hsc := scanGb E h88 s t line rest h1 h3 (by omega) (fun c hc => (plain_lt (hpl c hc)).2) (nuBox acc :: js) N hN
      have htx := evF90 E h90 N 0 (scanBox rest line :: nuBox acc :: js) rest line rfl
      obtain ⟨js1, hln⟩ := line2228 E H line r hv (hok r (by simp)) (by omega) (fun c hc => ⟨l3 c hc, h1 c hc⟩) (scanBox rest line) acc js N
      have hl1 : (acc.length + 1) * 8 ≤ 140737488355328 := by simp at ha; omega
      have hl2 : acc.length + 1 ≤ 140737488355328 := by simp at ha; omega
      obtain ⟨js', he⟩ := ih rest line (acc ++ [.ref (unCells r)]) js1 k hn' l4 (fun q hq => hok q (by simp [hq])) (by omega) (by omega) (by simp at ha ⊢; omega) (by simp at hk; omega)
      have hst : evCA E (evF E (N + 1)) m b2207_0 (st2207 s t acc js) = some (.normal, st2207 rest line (acc ++ [.ref (unCells r)]) js1) := by
        clear H he ih
        generalize unCells r = cs at *
        unfold nuBox at *
        cases acc with
        | nil => simp [b2207_0, st2207, nuBox, hp88, hp90, hp28, hsc, htx, hln]
        | cons y ys =>
          simp only [List.length_cons] at hl1 hl2
          simp [b2207_0, st2207, nuBox, hp88, hp90, hp28, hsc, htx, hln, hl1, hl2]
      refine ⟨js', ?_⟩
      rw [roundsA_step hst, he]
      simp [unVals]

theorem unRead_spec {s : List UInt8} {rs : List RowD} (h : unRead s = some rs) : ∃ rest, s = unHeadL ++ 10 :: rest ∧ (∀ c ∈ s, plainC c = true) ∧ unTabV (linesL rest) = some rs ∧ ∀ r ∈ rs, unOk r = true := by
  unfold unRead at h
  by_cases hc : s.all plainC = true ∧ s.take 56 = unHead
  rotate_left
  · rw [if_neg hc] at h; cases h
  rw [if_pos hc] at h
  cases hv : unTabV (linesL (s.drop 56)) with
  | none => rw [hv] at h; cases h
  | some q =>
    rw [hv] at h
    simp only at h
    by_cases ha : q.all unOk = true
    rotate_left
    · rw [if_neg ha] at h; cases h
    rw [if_pos ha] at h
    simp only [Option.some.injEq] at h
    subst h
    refine ⟨s.drop 56, ?_, List.all_eq_true.1 hc.1, hv, List.all_eq_true.1 ha⟩
    conv => lhs; rw [← List.take_append_drop 56 s, hc.2]
    simp [unHead]

/-- The first place of a text in a text. -/
def S1166i (F : List SV → Option AV) : Prop := ∀ (s w : List UInt8) (p : Nat), s.length < 1000000000 → w.length < 1000000000 → p + w.length ≤ s.length → (s.drop p).take w.length = w → (∀ j, j < p → (s.drop j).take w.length ≠ w) → F [.str s, .str w] = some (.sv (.int .i64 (p : Int)))

theorem loop1166i (E : Env) (cf : CallF) (m : Nat) (s w : List UInt8) (p : Nat) (hs : s.length < 1000000000) (hwl : w.length < 1000000000) (hp : p + w.length ≤ s.length) (hw : (s.drop p).take w.length = w) (hno : ∀ j, j < p → (s.drop j).take w.length ≠ w) :
    ∀ (d i k : Nat), i + d = p → d < k → roundsA (evCA E cf m b1166_0) k (st1166 s w i) = some (.ret, { nt := 25, tm := [(4, .sv (.int .i64 (p : Int)))], lz := none, bx := [], df := [] }) := by
  intro d
  induction d with
  | zero =>
    intro i k hd hk
    obtain ⟨k, rfl⟩ : ∃ k', k = k' + 1 := ⟨k - 1, by omega⟩
    have hi : i = p := by omega
    subst hi
    have hst := step1166 E cf m s w hs hwl i hp
    rw [if_pos hw] at hst
    exact roundsA_out hst (by simp)
  | succ d ih =>
    intro i k hd hk
    obtain ⟨k, rfl⟩ : ∃ k', k = k' + 1 := ⟨k - 1, by omega⟩
    have hst := step1166 E cf m s w hs hwl i (by omega)
    rw [if_neg (hno i (by omega))] at hst
    rw [roundsA_step hst]
    exact ih (i + 1) k (by omega) (by omega)

theorem ev1166i (E : Env) (h : E.code 242 = some c1166) : S1166i (autoF E 242) := by
  intro s w p hs hwl hp hw hno
  have hl := loop1166i E (evF E (p + 1)) (p + 1) s w p hs hwl hp hw hno p 0 (p + 1) (by omega) (by omega)
  refine autoA_sv (n := p + 1) ?_ rfl
  unfold evPA
  simp only [h]
  simp only [st1166, Int.ofNat_zero, Int.natCast_zero] at hl
  simp [c1166, hl]

def S1155u (F : List SV → Option AV) : Prop := F [.str unHeadL, .str [73, 110, 111, 100, 101]] = some (.sv (.bool true))

theorem ev1155u (E : Env) (h : E.code 227 = some c1155) (h66 : Has E 242 S1166i) : S1155u (autoF E 227) := by
  obtain ⟨F, hp, hF⟩ := h66
  have hF1 := hF unHeadL [73, 110, 111, 100, 101] 45 (by decide) (by decide) (by decide) (by decide) (fun j hj => (by decide : ∀ j : Fin 45, (unHeadL.drop j.val).take 5 ≠ [73, 110, 111, 100, 101]) ⟨j, hj⟩)
  refine autoA_sv (n := 1) ?_ rfl
  unfold evPA
  simp only [h]
  generalize unHeadL = s at *
  simp only [show ((45 : Nat) : Int) = 45 from rfl] at hF1
  simp [c1155, hp, hF1]

def S2207 (F : List SV → Option AV) : Prop := ∀ (s : List UInt8) (rs : List RowD), unRead s = some rs → s.length ≤ 40000 → F [.str s] = some (.sv (.tup [.ref [.sl (unVals rs)], .nilI]))

set_option maxHeartbeats 4000000 in
theorem ev2207 (E : Env) (h : E.code 207 = some c2207) (H : UnH E) (h87 : E.code 132 = some c87) (h88 : E.code 133 = some c88) (h90 : E.code 135 = some c90) (h128 : E.code 202 = some c128) (h55 : Has E 227 S1155u) (hp87 : E.pure 132 = none) (hp88 : E.pure 133 = none) (hp90 : E.pure 135 = none) (hp128 : E.pure 202 = none) (hp28 : E.pure 228 = none) : S2207 (autoF E 207) := by
  obtain ⟨FI, hpI, hI⟩ := h55
  intro s rs hr hs
  obtain ⟨rest, g1, g2, g3, g4⟩ := unRead_spec hr
  have hrl : rest.length ≤ 40000 ∧ rest.length < s.length := by rw [g1] at hs ⊢; simp at hs ⊢; omega
  obtain ⟨f1, f2⟩ := unRows_fit g3 hrl.1
  have hlen : rs.length ≤ rest.length + 1 := by
    obtain ⟨_, k1, k2⟩ := linesV_shape rest
    obtain ⟨g1, g2⟩ := unTabV_fit (B := 40000) (by omega) g3 (fun x hx => by have := k2 x hx; omega)
    omega
  rw [linesL_eq] at g3
  have hpr : ∀ c ∈ rest, plainC c = true := fun c hc => g2 c (by rw [g1]; simp [hc])
  have e87 := evF87 E h87 (s.length + 1) [] s
  have hsc := scanG E h88 s [] unHeadL rest (by decide) (.inl g1) (by omega) (fun c hc => (plain_lt (g2 c hc)).2) (s.length + 1) (by omega)
  have htx := evF90 E h90 (s.length + 1) 0 [scanBox rest unHeadL] rest unHeadL rfl
  obtain ⟨js', hl⟩ := loop2207 E (s.length + 1) (s.length + 2) H h88 h90 hp88 hp90 hp28 rs rest unHeadL [] [] (s.length + 2) g3 hpr g4 hrl.1 (by omega) (by simp; omega) (by omega)
  have e128 := evF128 E h128 (s.length + 1) 0 (scanBox [] [] :: nuBox ([] ++ unVals rs) :: js') [] [] rfl
  clear g1 g2 g3 hpr hr H
  unfold S1155u at hI
  have w7 : IntKind.i64.wrap 7 = 7 := by decide
  refine autoA_sv (n := s.length + 2) ?_ rfl
  unfold evPA
  simp only [h]
  generalize unVals rs = vs at *
  generalize unHeadL = hd at *
  simp only [List.length_nil, List.nil_append] at e87
  simp only [List.nil_append, st2207, nuBox] at hl e128
  cases vs with
  | nil =>
    simp only at hl e128
    simp only [scanBox] at *
    simp [c2207, hp87, hp88, hp90, hp128, e87, hsc, htx, hpI, hI, w7, hl, e128]
  | cons y ys =>
    simp only at hl e128
    simp only [scanBox] at *
    simp [c2207, hp87, hp88, hp90, hp128, e87, hsc, htx, hpI, hI, w7, hl, e128]

def S2178 (F : List SV → Option AV) : Prop := S2207 F

theorem ev2178 (E : Env) (h : E.code 178 = some c2178) (hq : E.quiet 131 = true) (h84 : E.pure 129 = some F84) (h07 : Has E 207 S2207) : S2178 (autoF E 178) := by
  obtain ⟨F, hp, hF⟩ := h07
  intro s rs hr hs
  have hF1 := hF s rs hr hs
  refine autoA_sv (n := 1) ?_ rfl
  unfold evPA
  simp only [h]
  generalize unVals rs = vs at *
  simp [c2178, h84, F84, hq, hp, hF1]

def S2084 (F : List SV → Option AV) : Prop := ∀ (s : List UInt8) (rs : List RowD), unRead s = some rs → s.length ≤ 40000 → F [.agg [.str s]] = some (.sv (.tup [.ref [.sl (unVals rs)], .nilI]))

theorem ev2084 (E : Env) (h : E.code 84 = some c2084) (h85 : E.pure 130 = some F85) (h78 : Has E 178 S2178) : S2084 (autoF E 84) := by
  obtain ⟨F, hp, hF⟩ := h78
  intro s rs hr hs
  have hF1 := hF s rs hr hs
  refine autoA_sv (n := 1) ?_ rfl
  unfold evPA
  simp only [h]
  generalize unVals rs = vs at *
  simp [c2084, h85, F85, hp, hF1]

end Go.Ev
