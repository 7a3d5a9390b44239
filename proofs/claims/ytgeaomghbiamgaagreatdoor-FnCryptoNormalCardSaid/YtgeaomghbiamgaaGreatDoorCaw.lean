/- Crypto: the door: the parser of a value, one key (lines printed by a program of this work). -/
/- Crypto: what is read of a text. -/
/- Crypto: the door's reading. -/
import Derived.Test.YtgeaomghbiamgaaGreatDoorCav
import Derived.Test.YtgeaomghbiamgaaGreatDoorCau
import Derived.Test.YtgeaomghbiamgaaGreatDoorCat
import Derived.Test.YtgeaomghbiamgaaGreatDoorCai
set_option linter.unusedSimpArgs false
set_option linter.unusedVariables false
namespace Go.Ev
open Go.Proofs

/-! ### A number with a sign, of any base -/

def S154z (F : List SV → Option AV) : Prop := ∀ n : Nat, n < 9223372036854775808 → F [.str (decS n), .int .i64 0, .int .i64 64] = some (.sv (.tup [.int .i64 (n : Int), .nilI]))

theorem ev154z (E : Env) (h : E.code 166 = some c154) (h125 : Has E 133 S125u) : S154z (autoF E 166) := by
  obtain ⟨F, hp, _, hF⟩ := h125
  intro n hn
  have hF1 := hF n (by omega)
  obtain ⟨_, g2, g3⟩ := decS_dig n
  have hsh : IntKind.u64.wrap (2 ^ min 63 IntKind.u64.bits) = 9223372036854775808 := by decide
  have hw63 : IntKind.i64.wrap 63 = 63 := by decide
  have hw63u : IntKind.u64.wrap 63 = 63 := by decide
  have q1 : ¬ (9223372036854775808 : Int) ≤ (n : Int) := by omega
  have w1 : IntKind.i64.wrap (n : Int) = (n : Int) := by rw [IntKind.wrap_i64]; omega
  refine autoF_sv (n := 1) ?_ rfl
  unfold evP
  simp only [h]
  generalize decS n = s at *
  cases s with
  | nil => exact absurd rfl g3
  | cons c t =>
    have hc := digC_iff.1 (g2 c (by simp))
    have e1 : ((c.toNat : Int) == 43) = false := by rw [Bool.eq_false_iff]; simp; omega
    have e2 : ((c.toNat : Int) == 45) = false := by rw [Bool.eq_false_iff]; simp; omega
    have b3 : (0 : Int) < (t.length : Int) + 1 := by omega
    have b4 : (0 : Int) ≤ (t.length : Int) + 1 := by omega
    simp [c154, List.replicate, hp, hF1, e1, e2, b3, b4, hsh, hw63, hw63u, q1, w1]

def S1158z (F : List SV → Option AV) : Prop := S154z F

theorem ev1158z (E : Env) (h : E.code 162 = some c1158) (h154 : Has E 166 S154z) : S1158z (autoF E 162) := by
  obtain ⟨F, hp, hF⟩ := h154
  intro n hn
  have hF1 := hF n hn
  refine autoF_sv (n := 1) ?_ rfl
  unfold evP
  simp only [h]
  generalize decS n = s at *
  simp [c1158, List.replicate, hp, hF1]

/-! ### The parser of a value -/

def vpB (v : List UInt8) : Box := .live [.sv (.str v), .sv .nilI]

structure KvH (E : Env) : Prop where
  d29 : E.code 129 = some c5129
  d39 : E.code 139 = some c5139
  d40 : E.code 140 = some c5140
  d41 : E.code 141 = some c5141
  d42 : E.code 142 = some c5142
  d55 : E.code 155 = some c5155
  p39 : E.pure 139 = none
  p40 : E.pure 140 = none
  p41 : E.pure 141 = none
  p42 : E.pure 142 = none
  p55 : E.pure 155 = none
  h91 : Has E 124 S91
  h58 : Has E 162 S1158z

theorem evF5139 (E : Env) (H : KvH E) (n : Nat) (v : List UInt8) (bx : List Box) : evF E (n + 1) 139 [.sv (.str v)] bx = some (.ptr bx.length 0, bx ++ [vpB v]) := by
  rw [evF_A]
  unfold evFA vpB
  simp only [H.d39]
  simp [c5139]

theorem evF5140 (E : Env) (H : KvH E) (n k i : Nat) (hk : k < 18446744073709551616) (bx : List Box) (hb : bx[i]? = some (vpB (decS k))) : evF E (n + 1) 140 [.ptr i 0] bx = some (.ptr bx.length 0, bx ++ [.live [.sv (.int .u64 (k : Int))]]) := by
  obtain ⟨F, pF, _, sF⟩ := H.h91
  have eF := sF k hk
  rw [evF_A]
  unfold evFA
  simp only [H.d40]
  unfold vpB at hb
  have hbl : i < bx.length := (List.getElem?_eq_some_iff.1 hb).1
  generalize decS k = v at *
  simp [c5140, hb, pF, eF]

theorem evF5155 (E : Env) (H : KvH E) (n k i : Nat) (hk : k < 9223372036854775808) (bx : List Box) (hb : bx[i]? = some (vpB (decS k))) : evF E (n + 1) 155 [.ptr i 0] bx = some (.sv (.int .i64 (k : Int)), bx) := by
  obtain ⟨F, pF, sF⟩ := H.h58
  have eF := sF k hk
  rw [evF_A]
  unfold evFA
  simp only [H.d55]
  unfold vpB at hb
  generalize decS k = v at *
  simp [c5155, hb, pF, eF]

theorem evF5141 (E : Env) (H : KvH E) (n k i : Nat) (hk : k < 9223372036854775808) (bx : List Box) (hb : bx[i]? = some (vpB (decS k))) : evF E (n + 2) 141 [.ptr i 0] bx = some (.ptr bx.length 0, bx ++ [.live [.sv (.int .i64 (k : Int))]]) := by
  have e55 := evF5155 E H n k i hk bx hb
  rw [evF_A]
  unfold evFA
  simp only [H.d41]
  unfold vpB at hb
  generalize decS k = v at *
  simp [c5141, hb, H.p55, e55]

theorem evF5142 (E : Env) (H : KvH E) (n i : Nat) (v : List UInt8) (bx : List Box) (hb : bx[i]? = some (vpB v)) : evF E (n + 1) 142 [.ptr i 0] bx = some (.sv .nilI, bx) := by
  rw [evF_A]
  unfold evFA
  simp only [H.d42]
  unfold vpB at hb
  simp [c5142, hb]

/-! ### One key -/

def crCell (x : CrF) (v : List UInt8) : SV :=
  if x.k = 98 then .bool (v == sYes)
  else if x.k = 115 then .str v
  else if x.k = 105 then .ref [.int .i64 (crNum v : Int)]
  else .ref [.int .u64 (crNum v : Int)]

theorem crNum_dec {n : Nat} (h : n < 18446744073709551616) : crNum (decS n) = n := by
  unfold crNum
  rw [numV_dec h]

theorem kvErr (E : Env) (H : KvH E) (n i : Nat) (bx : List Box) (v : List UInt8) (c : Box) (X : List Box) : evF E (n + 2) 142 [.ptr bx.length 0] (bx.set i c ++ .live [.sv (.str v), .sv .nilI] :: X) = some (.sv .nilI, bx.set i c ++ .live [.sv (.str v), .sv .nilI] :: X) := by
  refine evF5142 E H (n + 1) bx.length v _ ?_
  rw [List.getElem?_append_right (by simp)]
  simp [vpB]

theorem kvIn {i : Nat} {C : List Cell} {bx : List Box} (hb : bx[i]? = some (.live C)) (X : List Box) : (bx ++ X)[i]? = some (.live C) := by
  rw [List.getElem?_append_left (List.getElem?_eq_some_iff.1 hb).1]; exact hb

theorem kvSet {i : Nat} {C : List Cell} {bx : List Box} (hb : bx[i]? = some (.live C)) (X : List Box) (c : Box) : (bx ++ X).set i c = bx.set i c ++ X := List.set_append_left _ _ (List.getElem?_eq_some_iff.1 hb).1

theorem kvLast (bx : List Box) (a u w : Box) : (bx ++ [a, u])[bx.length + 1]? = some u ∧ (bx ++ [a, u]).set (bx.length + 1) w = bx ++ [a, w] := by
  constructor
  · rw [List.getElem?_append_right (by omega)]
    simp
  · rw [List.set_append_right _ _ (by omega), show bx.length + 1 - bx.length = 1 from by omega]
    rfl

set_option maxRecDepth 100000 in
set_option maxHeartbeats 4000000 in
theorem kv1 (E : Env) (H : KvH E) (n i off : Nat) (C : List Cell) (bx : List Box) (hb : bx[i]? = some (.live C)) (ho : off + 21 ≤ C.length) (v : List UInt8) : ∃ X, evF E (n + 3) 129 [.ptr i off, .sv (.str [97, 115, 121, 110, 99]), .sv (.str v)] bx = some (.sv .nilI, bx.set i (.live (C.set (off + 1) (.sv (.bool (v == sYes))))) ++ X) := by
  refine ⟨[vpB v], ?_⟩
  have e39 := evF5139 E H (n + 1) v bx
  have e42 := kvErr E H n i bx v
  have h1 := kvIn hb
  have h2 := kvSet hb
  have hq : off + 1 < C.length := by omega
  unfold vpB at e39
  rw [evF_A]
  unfold evFA
  simp only [H.d29]
  unfold vpB sYes
  simp [c5129, H.p39, e39, H.p42, e42, h1, h2, hq]

set_option maxRecDepth 100000 in
set_option maxHeartbeats 4000000 in
theorem kv2 (E : Env) (H : KvH E) (n i off : Nat) (C : List Cell) (bx : List Box) (hb : bx[i]? = some (.live C)) (ho : off + 21 ≤ C.length) (k : Nat) (hk : k < 18446744073709551616) : ∃ X, evF E (n + 3) 129 [.ptr i off, .sv (.str [98, 108, 111, 99, 107, 115, 105, 122, 101]), .sv (.str (decS k))] bx = some (.sv .nilI, bx.set i (.live (C.set (off + 2) (.sv (.ref [.int .u64 (k : Int)])))) ++ X) := by
  refine ⟨[vpB (decS k), .frz [.int .u64 (k : Int)]], ?_⟩
  have e40 := evF5140 E H (n + 1) k bx.length hk (bx ++ [vpB (decS k)]) (by simp)
  have e39 := evF5139 E H (n + 1) (decS k) bx
  have e42 := kvErr E H n i bx (decS k)
  have h1 := kvIn hb
  have h2 := kvSet hb
  have hq : off + 2 < C.length := by omega
  unfold vpB at e39
  rw [evF_A]
  unfold evFA
  simp only [H.d29]
  have h3 := kvLast bx
  unfold vpB at e40 ⊢
  simp only [List.append_assoc, List.cons_append, List.nil_append, List.length_append, List.length_cons, List.length_nil, Nat.zero_add] at e40
  generalize decS k = v at *
  simp [c5129, H.p39, e39, H.p40, e40, H.p42, e42, h1, h2, h3, hq]

set_option maxRecDepth 100000 in
set_option maxHeartbeats 4000000 in
theorem kv3 (E : Env) (H : KvH E) (n i off : Nat) (C : List Cell) (bx : List Box) (hb : bx[i]? = some (.live C)) (ho : off + 21 ≤ C.length) (k : Nat) (hk : k < 18446744073709551616) : ∃ X, evF E (n + 3) 129 [.ptr i off, .sv (.str [99, 104, 117, 110, 107, 115, 105, 122, 101]), .sv (.str (decS k))] bx = some (.sv .nilI, bx.set i (.live (C.set (off + 3) (.sv (.ref [.int .u64 (k : Int)])))) ++ X) := by
  refine ⟨[vpB (decS k), .frz [.int .u64 (k : Int)]], ?_⟩
  have e40 := evF5140 E H (n + 1) k bx.length hk (bx ++ [vpB (decS k)]) (by simp)
  have e39 := evF5139 E H (n + 1) (decS k) bx
  have e42 := kvErr E H n i bx (decS k)
  have h1 := kvIn hb
  have h2 := kvSet hb
  have hq : off + 3 < C.length := by omega
  unfold vpB at e39
  rw [evF_A]
  unfold evFA
  simp only [H.d29]
  have h3 := kvLast bx
  unfold vpB at e40 ⊢
  simp only [List.append_assoc, List.cons_append, List.nil_append, List.length_append, List.length_cons, List.length_nil, Nat.zero_add] at e40
  generalize decS k = v at *
  simp [c5129, H.p39, e39, H.p40, e40, H.p42, e42, h1, h2, h3, hq]

set_option maxRecDepth 100000 in
set_option maxHeartbeats 4000000 in
theorem kv5 (E : Env) (H : KvH E) (n i off : Nat) (C : List Cell) (bx : List Box) (hb : bx[i]? = some (.live C)) (ho : off + 21 ≤ C.length) (k : Nat) (hk : k < 18446744073709551616) : ∃ X, evF E (n + 3) 129 [.ptr i off, .sv (.str [100, 105, 103, 101, 115, 116, 115, 105, 122, 101]), .sv (.str (decS k))] bx = some (.sv .nilI, bx.set i (.live (C.set (off + 5) (.sv (.ref [.int .u64 (k : Int)])))) ++ X) := by
  refine ⟨[vpB (decS k), .frz [.int .u64 (k : Int)]], ?_⟩
  have e40 := evF5140 E H (n + 1) k bx.length hk (bx ++ [vpB (decS k)]) (by simp)
  have e39 := evF5139 E H (n + 1) (decS k) bx
  have e42 := kvErr E H n i bx (decS k)
  have h1 := kvIn hb
  have h2 := kvSet hb
  have hq : off + 5 < C.length := by omega
  unfold vpB at e39
  rw [evF_A]
  unfold evFA
  simp only [H.d29]
  have h3 := kvLast bx
  unfold vpB at e40 ⊢
  simp only [List.append_assoc, List.cons_append, List.nil_append, List.length_append, List.length_cons, List.length_nil, Nat.zero_add] at e40
  generalize decS k = v at *
  simp [c5129, H.p39, e39, H.p40, e40, H.p42, e42, h1, h2, h3, hq]

set_option maxRecDepth 100000 in
set_option maxHeartbeats 4000000 in
theorem kv6 (E : Env) (H : KvH E) (n i off : Nat) (C : List Cell) (bx : List Box) (hb : bx[i]? = some (.live C)) (ho : off + 21 ≤ C.length) (v : List UInt8) : ∃ X, evF E (n + 3) 129 [.ptr i off, .sv (.str [100, 114, 105, 118, 101, 114]), .sv (.str v)] bx = some (.sv .nilI, bx.set i (.live (C.set (off + 6) (.sv (.str v)))) ++ X) := by
  refine ⟨[vpB v], ?_⟩
  have e39 := evF5139 E H (n + 1) v bx
  have e42 := kvErr E H n i bx v
  have h1 := kvIn hb
  have h2 := kvSet hb
  have hq : off + 6 < C.length := by omega
  unfold vpB at e39
  rw [evF_A]
  unfold evFA
  simp only [H.d29]
  unfold vpB
  simp [c5129, H.p39, e39, H.p42, e42, h1, h2, hq]

set_option maxRecDepth 100000 in
set_option maxHeartbeats 4000000 in
theorem kv7 (E : Env) (H : KvH E) (n i off : Nat) (C : List Cell) (bx : List Box) (hb : bx[i]? = some (.live C)) (ho : off + 21 ≤ C.length) (v : List UInt8) : ∃ X, evF E (n + 3) 129 [.ptr i off, .sv (.str [103, 101, 110, 105, 118]), .sv (.str v)] bx = some (.sv .nilI, bx.set i (.live (C.set (off + 7) (.sv (.str v)))) ++ X) := by
  refine ⟨[vpB v], ?_⟩
  have e39 := evF5139 E H (n + 1) v bx
  have e42 := kvErr E H n i bx v
  have h1 := kvIn hb
  have h2 := kvSet hb
  have hq : off + 7 < C.length := by omega
  unfold vpB at e39
  rw [evF_A]
  unfold evFA
  simp only [H.d29]
  unfold vpB
  simp [c5129, H.p39, e39, H.p42, e42, h1, h2, hq]

set_option maxRecDepth 100000 in
set_option maxHeartbeats 4000000 in
theorem kv8 (E : Env) (H : KvH E) (n i off : Nat) (C : List Cell) (bx : List Box) (hb : bx[i]? = some (.live C)) (ho : off + 21 ≤ C.length) (v : List UInt8) : ∃ X, evF E (n + 3) 129 [.ptr i off, .sv (.str [105, 110, 116, 101, 114, 110, 97, 108]), .sv (.str v)] bx = some (.sv .nilI, bx.set i (.live (C.set (off + 8) (.sv (.str v)))) ++ X) := by
  refine ⟨[vpB v], ?_⟩
  have e39 := evF5139 E H (n + 1) v bx
  have e42 := kvErr E H n i bx v
  have h1 := kvIn hb
  have h2 := kvSet hb
  have hq : off + 8 < C.length := by omega
  unfold vpB at e39
  rw [evF_A]
  unfold evFA
  simp only [H.d29]
  unfold vpB
  simp [c5129, H.p39, e39, H.p42, e42, h1, h2, hq]

set_option maxRecDepth 100000 in
set_option maxHeartbeats 4000000 in
theorem kv9 (E : Env) (H : KvH E) (n i off : Nat) (C : List Cell) (bx : List Box) (hb : bx[i]? = some (.live C)) (ho : off + 21 ≤ C.length) (k : Nat) (hk : k < 18446744073709551616) : ∃ X, evF E (n + 3) 129 [.ptr i off, .sv (.str [105, 118, 115, 105, 122, 101]), .sv (.str (decS k))] bx = some (.sv .nilI, bx.set i (.live (C.set (off + 9) (.sv (.ref [.int .u64 (k : Int)])))) ++ X) := by
  refine ⟨[vpB (decS k), .frz [.int .u64 (k : Int)]], ?_⟩
  have e40 := evF5140 E H (n + 1) k bx.length hk (bx ++ [vpB (decS k)]) (by simp)
  have e39 := evF5139 E H (n + 1) (decS k) bx
  have e42 := kvErr E H n i bx (decS k)
  have h1 := kvIn hb
  have h2 := kvSet hb
  have hq : off + 9 < C.length := by omega
  unfold vpB at e39
  rw [evF_A]
  unfold evFA
  simp only [H.d29]
  have h3 := kvLast bx
  unfold vpB at e40 ⊢
  simp only [List.append_assoc, List.cons_append, List.nil_append, List.length_append, List.length_cons, List.length_nil, Nat.zero_add] at e40
  generalize decS k = v at *
  simp [c5129, H.p39, e39, H.p40, e40, H.p42, e42, h1, h2, h3, hq]

set_option maxRecDepth 100000 in
set_option maxHeartbeats 4000000 in
theorem kv10 (E : Env) (H : KvH E) (n i off : Nat) (C : List Cell) (bx : List Box) (hb : bx[i]? = some (.live C)) (ho : off + 21 ≤ C.length) (k : Nat) (hk : k < 18446744073709551616) : ∃ X, evF E (n + 3) 129 [.ptr i off, .sv (.str [109, 97, 120, 97, 117, 116, 104, 115, 105, 122, 101]), .sv (.str (decS k))] bx = some (.sv .nilI, bx.set i (.live (C.set (off + 10) (.sv (.ref [.int .u64 (k : Int)])))) ++ X) := by
  refine ⟨[vpB (decS k), .frz [.int .u64 (k : Int)]], ?_⟩
  have e40 := evF5140 E H (n + 1) k bx.length hk (bx ++ [vpB (decS k)]) (by simp)
  have e39 := evF5139 E H (n + 1) (decS k) bx
  have e42 := kvErr E H n i bx (decS k)
  have h1 := kvIn hb
  have h2 := kvSet hb
  have hq : off + 10 < C.length := by omega
  unfold vpB at e39
  rw [evF_A]
  unfold evFA
  simp only [H.d29]
  have h3 := kvLast bx
  unfold vpB at e40 ⊢
  simp only [List.append_assoc, List.cons_append, List.nil_append, List.length_append, List.length_cons, List.length_nil, Nat.zero_add] at e40
  generalize decS k = v at *
  simp [c5129, H.p39, e39, H.p40, e40, H.p42, e42, h1, h2, h3, hq]

set_option maxRecDepth 100000 in
set_option maxHeartbeats 4000000 in
theorem kv11 (E : Env) (H : KvH E) (n i off : Nat) (C : List Cell) (bx : List Box) (hb : bx[i]? = some (.live C)) (ho : off + 21 ≤ C.length) (k : Nat) (hk : k < 18446744073709551616) : ∃ X, evF E (n + 3) 129 [.ptr i off, .sv (.str [109, 97, 120, 32, 107, 101, 121, 115, 105, 122, 101]), .sv (.str (decS k))] bx = some (.sv .nilI, bx.set i (.live (C.set (off + 11) (.sv (.ref [.int .u64 (k : Int)])))) ++ X) := by
  refine ⟨[vpB (decS k), .frz [.int .u64 (k : Int)]], ?_⟩
  have e40 := evF5140 E H (n + 1) k bx.length hk (bx ++ [vpB (decS k)]) (by simp)
  have e39 := evF5139 E H (n + 1) (decS k) bx
  have e42 := kvErr E H n i bx (decS k)
  have h1 := kvIn hb
  have h2 := kvSet hb
  have hq : off + 11 < C.length := by omega
  unfold vpB at e39
  rw [evF_A]
  unfold evFA
  simp only [H.d29]
  have h3 := kvLast bx
  unfold vpB at e40 ⊢
  simp only [List.append_assoc, List.cons_append, List.nil_append, List.length_append, List.length_cons, List.length_nil, Nat.zero_add] at e40
  generalize decS k = v at *
  simp [c5129, H.p39, e39, H.p40, e40, H.p42, e42, h1, h2, h3, hq]

set_option maxRecDepth 100000 in
set_option maxHeartbeats 4000000 in
theorem kv12 (E : Env) (H : KvH E) (n i off : Nat) (C : List Cell) (bx : List Box) (hb : bx[i]? = some (.live C)) (ho : off + 21 ≤ C.length) (k : Nat) (hk : k < 18446744073709551616) : ∃ X, evF E (n + 3) 129 [.ptr i off, .sv (.str [109, 105, 110, 32, 107, 101, 121, 115, 105, 122, 101]), .sv (.str (decS k))] bx = some (.sv .nilI, bx.set i (.live (C.set (off + 12) (.sv (.ref [.int .u64 (k : Int)])))) ++ X) := by
  refine ⟨[vpB (decS k), .frz [.int .u64 (k : Int)]], ?_⟩
  have e40 := evF5140 E H (n + 1) k bx.length hk (bx ++ [vpB (decS k)]) (by simp)
  have e39 := evF5139 E H (n + 1) (decS k) bx
  have e42 := kvErr E H n i bx (decS k)
  have h1 := kvIn hb
  have h2 := kvSet hb
  have hq : off + 12 < C.length := by omega
  unfold vpB at e39
  rw [evF_A]
  unfold evFA
  simp only [H.d29]
  have h3 := kvLast bx
  unfold vpB at e40 ⊢
  simp only [List.append_assoc, List.cons_append, List.nil_append, List.length_append, List.length_cons, List.length_nil, Nat.zero_add] at e40
  generalize decS k = v at *
  simp [c5129, H.p39, e39, H.p40, e40, H.p42, e42, h1, h2, h3, hq]

set_option maxRecDepth 100000 in
set_option maxHeartbeats 4000000 in
theorem kv13 (E : Env) (H : KvH E) (n i off : Nat) (C : List Cell) (bx : List Box) (hb : bx[i]? = some (.live C)) (ho : off + 21 ≤ C.length) (v : List UInt8) : ∃ X, evF E (n + 3) 129 [.ptr i off, .sv (.str [109, 111, 100, 117, 108, 101]), .sv (.str v)] bx = some (.sv .nilI, bx.set i (.live (C.set (off + 13) (.sv (.str v)))) ++ X) := by
  refine ⟨[vpB v], ?_⟩
  have e39 := evF5139 E H (n + 1) v bx
  have e42 := kvErr E H n i bx v
  have h1 := kvIn hb
  have h2 := kvSet hb
  have hq : off + 13 < C.length := by omega
  unfold vpB at e39
  rw [evF_A]
  unfold evFA
  simp only [H.d29]
  unfold vpB
  simp [c5129, H.p39, e39, H.p42, e42, h1, h2, hq]

set_option maxRecDepth 100000 in
set_option maxHeartbeats 4000000 in
theorem kv14 (E : Env) (H : KvH E) (n i off : Nat) (C : List Cell) (bx : List Box) (hb : bx[i]? = some (.live C)) (ho : off + 21 ≤ C.length) (v : List UInt8) : ∃ X, evF E (n + 3) 129 [.ptr i off, .sv (.str [110, 97, 109, 101]), .sv (.str v)] bx = some (.sv .nilI, bx.set i (.live (C.set (off + 14) (.sv (.str v)))) ++ X) := by
  refine ⟨[vpB v], ?_⟩
  have e39 := evF5139 E H (n + 1) v bx
  have e42 := kvErr E H n i bx v
  have h1 := kvIn hb
  have h2 := kvSet hb
  have hq : off + 14 < C.length := by omega
  unfold vpB at e39
  rw [evF_A]
  unfold evFA
  simp only [H.d29]
  unfold vpB
  simp [c5129, H.p39, e39, H.p42, e42, h1, h2, hq]

set_option maxRecDepth 100000 in
set_option maxHeartbeats 4000000 in
theorem kv15 (E : Env) (H : KvH E) (n i off : Nat) (C : List Cell) (bx : List Box) (hb : bx[i]? = some (.live C)) (ho : off + 21 ≤ C.length) (k : Nat) (hk : k < 9223372036854775808) : ∃ X, evF E (n + 3) 129 [.ptr i off, .sv (.str [112, 114, 105, 111, 114, 105, 116, 121]), .sv (.str (decS k))] bx = some (.sv .nilI, bx.set i (.live (C.set (off + 15) (.sv (.ref [.int .i64 (k : Int)])))) ++ X) := by
  refine ⟨[vpB (decS k), .frz [.int .i64 (k : Int)]], ?_⟩
  have e40 := evF5141 E H n k bx.length hk (bx ++ [vpB (decS k)]) (by simp)
  have e39 := evF5139 E H (n + 1) (decS k) bx
  have e42 := kvErr E H n i bx (decS k)
  have h1 := kvIn hb
  have h2 := kvSet hb
  have hq : off + 15 < C.length := by omega
  unfold vpB at e39
  rw [evF_A]
  unfold evFA
  simp only [H.d29]
  have h3 := kvLast bx
  unfold vpB at e40 ⊢
  simp only [List.append_assoc, List.cons_append, List.nil_append, List.length_append, List.length_cons, List.length_nil, Nat.zero_add] at e40
  generalize decS k = v at *
  simp [c5129, H.p39, e39, H.p41, e40, H.p42, e42, h1, h2, h3, hq]

set_option maxRecDepth 100000 in
set_option maxHeartbeats 4000000 in
theorem kv16 (E : Env) (H : KvH E) (n i off : Nat) (C : List Cell) (bx : List Box) (hb : bx[i]? = some (.live C)) (ho : off + 21 ≤ C.length) (k : Nat) (hk : k < 9223372036854775808) : ∃ X, evF E (n + 3) 129 [.ptr i off, .sv (.str [114, 101, 102, 99, 110, 116]), .sv (.str (decS k))] bx = some (.sv .nilI, bx.set i (.live (C.set (off + 16) (.sv (.ref [.int .i64 (k : Int)])))) ++ X) := by
  refine ⟨[vpB (decS k), .frz [.int .i64 (k : Int)]], ?_⟩
  have e40 := evF5141 E H n k bx.length hk (bx ++ [vpB (decS k)]) (by simp)
  have e39 := evF5139 E H (n + 1) (decS k) bx
  have e42 := kvErr E H n i bx (decS k)
  have h1 := kvIn hb
  have h2 := kvSet hb
  have hq : off + 16 < C.length := by omega
  unfold vpB at e39
  rw [evF_A]
  unfold evFA
  simp only [H.d29]
  have h3 := kvLast bx
  unfold vpB at e40 ⊢
  simp only [List.append_assoc, List.cons_append, List.nil_append, List.length_append, List.length_cons, List.length_nil, Nat.zero_add] at e40
  generalize decS k = v at *
  simp [c5129, H.p39, e39, H.p41, e40, H.p42, e42, h1, h2, h3, hq]

set_option maxRecDepth 100000 in
set_option maxHeartbeats 4000000 in
theorem kv17 (E : Env) (H : KvH E) (n i off : Nat) (C : List Cell) (bx : List Box) (hb : bx[i]? = some (.live C)) (ho : off + 21 ≤ C.length) (k : Nat) (hk : k < 18446744073709551616) : ∃ X, evF E (n + 3) 129 [.ptr i off, .sv (.str [115, 101, 101, 100, 115, 105, 122, 101]), .sv (.str (decS k))] bx = some (.sv .nilI, bx.set i (.live (C.set (off + 17) (.sv (.ref [.int .u64 (k : Int)])))) ++ X) := by
  refine ⟨[vpB (decS k), .frz [.int .u64 (k : Int)]], ?_⟩
  have e40 := evF5140 E H (n + 1) k bx.length hk (bx ++ [vpB (decS k)]) (by simp)
  have e39 := evF5139 E H (n + 1) (decS k) bx
  have e42 := kvErr E H n i bx (decS k)
  have h1 := kvIn hb
  have h2 := kvSet hb
  have hq : off + 17 < C.length := by omega
  unfold vpB at e39
  rw [evF_A]
  unfold evFA
  simp only [H.d29]
  have h3 := kvLast bx
  unfold vpB at e40 ⊢
  simp only [List.append_assoc, List.cons_append, List.nil_append, List.length_append, List.length_cons, List.length_nil, Nat.zero_add] at e40
  generalize decS k = v at *
  simp [c5129, H.p39, e39, H.p40, e40, H.p42, e42, h1, h2, h3, hq]

set_option maxRecDepth 100000 in
set_option maxHeartbeats 4000000 in
theorem kv18 (E : Env) (H : KvH E) (n i off : Nat) (C : List Cell) (bx : List Box) (hb : bx[i]? = some (.live C)) (ho : off + 21 ≤ C.length) (v : List UInt8) : ∃ X, evF E (n + 3) 129 [.ptr i off, .sv (.str [115, 101, 108, 102, 116, 101, 115, 116]), .sv (.str v)] bx = some (.sv .nilI, bx.set i (.live (C.set (off + 18) (.sv (.str v)))) ++ X) := by
  refine ⟨[vpB v], ?_⟩
  have e39 := evF5139 E H (n + 1) v bx
  have e42 := kvErr E H n i bx v
  have h1 := kvIn hb
  have h2 := kvSet hb
  have hq : off + 18 < C.length := by omega
  unfold vpB at e39
  rw [evF_A]
  unfold evFA
  simp only [H.d29]
  unfold vpB
  simp [c5129, H.p39, e39, H.p42, e42, h1, h2, hq]

set_option maxRecDepth 100000 in
set_option maxHeartbeats 4000000 in
theorem kv19 (E : Env) (H : KvH E) (n i off : Nat) (C : List Cell) (bx : List Box) (hb : bx[i]? = some (.live C)) (ho : off + 21 ≤ C.length) (v : List UInt8) : ∃ X, evF E (n + 3) 129 [.ptr i off, .sv (.str [116, 121, 112, 101]), .sv (.str v)] bx = some (.sv .nilI, bx.set i (.live (C.set (off + 19) (.sv (.str v)))) ++ X) := by
  refine ⟨[vpB v], ?_⟩
  have e39 := evF5139 E H (n + 1) v bx
  have e42 := kvErr E H n i bx v
  have h1 := kvIn hb
  have h2 := kvSet hb
  have hq : off + 19 < C.length := by omega
  unfold vpB at e39
  rw [evF_A]
  unfold evFA
  simp only [H.d29]
  unfold vpB
  simp [c5129, H.p39, e39, H.p42, e42, h1, h2, hq]

set_option maxRecDepth 100000 in
set_option maxHeartbeats 4000000 in
theorem kv20 (E : Env) (H : KvH E) (n i off : Nat) (C : List Cell) (bx : List Box) (hb : bx[i]? = some (.live C)) (ho : off + 21 ≤ C.length) (k : Nat) (hk : k < 18446744073709551616) : ∃ X, evF E (n + 3) 129 [.ptr i off, .sv (.str [119, 97, 108, 107, 115, 105, 122, 101]), .sv (.str (decS k))] bx = some (.sv .nilI, bx.set i (.live (C.set (off + 20) (.sv (.ref [.int .u64 (k : Int)])))) ++ X) := by
  refine ⟨[vpB (decS k), .frz [.int .u64 (k : Int)]], ?_⟩
  have e40 := evF5140 E H (n + 1) k bx.length hk (bx ++ [vpB (decS k)]) (by simp)
  have e39 := evF5139 E H (n + 1) (decS k) bx
  have e42 := kvErr E H n i bx (decS k)
  have h1 := kvIn hb
  have h2 := kvSet hb
  have hq : off + 20 < C.length := by omega
  unfold vpB at e39
  rw [evF_A]
  unfold evFA
  simp only [H.d29]
  have h3 := kvLast bx
  unfold vpB at e40 ⊢
  simp only [List.append_assoc, List.cons_append, List.nil_append, List.length_append, List.length_cons, List.length_nil, Nat.zero_add] at e40
  generalize decS k = v at *
  simp [c5129, H.p39, e39, H.p40, e40, H.p42, e42, h1, h2, h3, hq]

end Go.Ev

set_option linter.unusedSimpArgs false
set_option linter.unusedVariables false
namespace Go.Ev
open Go.Proofs

def stA5020 (s : List UInt8) (X : List SV) (i : Nat) (K : List Box) : SA := { nt := 76, tm := [(14, .sv (.int .i64 i)), (13, .sv (.int .i64 X.length)), (12, .sv (.sl X)), (5, .sv .nilS), (0, .sv (.str s))], lz := none, bx := K, df := [], mu := [35] }
def stB5020 (s : List UInt8) (X : List SV) (i : Nat) (K : List Box) (b n : Nat) : SA := { nt := 76, tm := [(14, .sv (.int .i64 i)), (13, .sv (.int .i64 X.length)), (12, .sv (.sl X)), (5, .grw b (n + 1) 3 35), (0, .sv (.str s))], lz := none, bx := K, df := [], mu := [35] }
def bad5020 (K : List Box) : SA := { nt := 76, tm := [(4, .sv (.int .i64 2)), (3, .sv (.bool false)), (2, .sv .nilS)], lz := none, bx := K, df := [], mu := [35] }

theorem drop_one {α : Type} {C : List α} {k : Nat} {x : α} (h : C[k]? = some x) (hl : C.length = k + 1) : C.drop k = [x] := by
  have hk : k < C.length := by omega
  rw [List.drop_eq_getElem_cons hk, List.drop_eq_nil_of_le (by omega)]
  rw [List.getElem?_eq_getElem hk] at h
  rw [Option.some.inj h]

theorem nneS {g : List UInt8} (h : g ≠ sName) : binSV .eql (.str g) (.str [110, 97, 109, 101]) = some (.bool false) := by
  rw [eqlS, show (g == [110, 97, 109, 101]) = false from by simpa [sName] using h]


set_option maxRecDepth 100000 in
set_option maxHeartbeats 4000000 in
theorem emptyA5020 (E : Env) (cf : CallF) (m : Nat) (s : List UInt8) (X : List SV) (hX : X.length < 1000000) (i : Nat) (hi : i < X.length) (c : List UInt8) (hc : ∀ h : i < X.length, X[i]'h = .str c) (he : c = []) (K : List Box) : evCA E cf m b5020_0 (stA5020 s X i K) = some (.normal, stA5020 s X (i + 1) K) := by
  have w1 : binSV .add (.int .i64 (i : Int)) (.int .i64 1) = some (.int .i64 ((i : Int) + 1)) := addI (by rw [IntKind.wrap_i64]; omega)
  have hlss : binSV .lss (.int .i64 (i : Int)) (.int .i64 (X.length : Int)) = some (.bool true) := by
    simp only [binSV, if_true, show (i : Int) < (X.length : Int) from by omega, decide_true]
  have e1 := eqlS c []
  rw [show (c == []) = true from by simp [he]] at e1
  unfold stA5020
  simp [-binSV, b5020_0, hlss, hi, hc, e1, w1]

set_option maxRecDepth 100000 in
set_option maxHeartbeats 4000000 in
theorem emptyB5020 (E : Env) (cf : CallF) (m : Nat) (s : List UInt8) (X : List SV) (hX : X.length < 1000000) (i : Nat) (hi : i < X.length) (c : List UInt8) (hc : ∀ h : i < X.length, X[i]'h = .str c) (he : c = []) (K : List Box) (b n : Nat) : evCA E cf m b5020_0 (stB5020 s X i K b n) = some (.normal, stB5020 s X (i + 1) K b n) := by
  have w1 : binSV .add (.int .i64 (i : Int)) (.int .i64 1) = some (.int .i64 ((i : Int) + 1)) := addI (by rw [IntKind.wrap_i64]; omega)
  have hlss : binSV .lss (.int .i64 (i : Int)) (.int .i64 (X.length : Int)) = some (.bool true) := by
    simp only [binSV, if_true, show (i : Int) < (X.length : Int) from by omega, decide_true]
  have e1 := eqlS c []
  rw [show (c == []) = true from by simp [he]] at e1
  unfold stB5020
  simp [-binSV, b5020_0, hlss, hi, hc, e1, w1]


set_option maxRecDepth 100000 in
set_option maxHeartbeats 4000000 in
theorem bad5020_where (E : Env) (cf : CallF) (m : Nat) (W : List SV → Option AV) (pW : E.pure 40 = some W) (s : List UInt8) (X : List SV) (hX : X.length < 1000000) (i : Nat) (hi : i < X.length) (c : List UInt8) (hc : ∀ h : i < X.length, X[i]'h = .str c) (hcl : c.length < 1000000) (hne : c ≠ []) (wv : Int) (hw0 : -1 ≤ wv) (hw1 : wv < 1000000) (eW : W [.str c, .int .u8 58] = some (.sv (.int .i64 wv))) (hb : wv < 0 ∨ wv + 2 > (c.length : Int)) (K : List Box) :
    evCA E cf m b5020_0 (stA5020 s X i K) = some (.ret, bad5020 K) ∧ ∀ b n, evCA E cf m b5020_0 (stB5020 s X i K b n) = some (.ret, bad5020 K) := by
  have hlss : binSV .lss (.int .i64 (i : Int)) (.int .i64 (X.length : Int)) = some (.bool true) := by
    simp only [binSV, if_true, show (i : Int) < (X.length : Int) from by omega, decide_true]
  have e1 := eqlS c []
  rw [show (c == []) = false from by simpa using hne] at e1
  have e2 : binSV .lss (.int .i64 wv) (.int .i64 0) = some (.bool (decide (wv < 0))) := by simp only [binSV, if_true]
  have e3 : binSV .add (.int .i64 wv) (.int .i64 2) = some (.int .i64 (wv + 2)) := addI (by rw [IntKind.wrap_i64]; omega)
  have e4 : binSV .gtr (.int .i64 (wv + 2)) (.int .i64 (c.length : Int)) = some (.bool (decide (wv + 2 > (c.length : Int)))) := by simp only [binSV, if_true]
  unfold stA5020 stB5020 bad5020
  by_cases h0 : wv < 0
  · rw [decide_eq_true h0] at e2
    clear e3 e4 hb
    generalize wv + 2 = w2 at *
    refine ⟨?_, fun b n => ?_⟩
    · simp [-binSV, b5020_0, hlss, hi, hc, e1, pW, eW, e2]
    · simp [-binSV, b5020_0, hlss, hi, hc, e1, pW, eW, e2]
  · rw [decide_eq_false h0] at e2
    rw [decide_eq_true (by rcases hb with hb | hb; exact absurd hb h0; exact hb)] at e4
    clear hb
    generalize wv + 2 = w2 at *
    refine ⟨?_, fun b n => ?_⟩
    · simp [-binSV, b5020_0, hlss, hi, hc, e1, pW, eW, e2, e3, e4]
    · simp [-binSV, b5020_0, hlss, hi, hc, e1, pW, eW, e2, e3, e4]


set_option maxRecDepth 100000 in
set_option maxHeartbeats 8000000 in
theorem name5020 (E : Env) (cf : CallF) (m : Nat) (W : List SV → Option AV) (pW : E.pure 40 = some W) (h52 : E.pure 61 = some F52) (h122 : E.pure 60 = some F122) (s : List UInt8) (X : List SV) (hX : X.length < 1000000) (i : Nat) (hi : i < X.length) (c : List UInt8) (hc : ∀ h : i < X.length, X[i]'h = .str c) (hcl : c.length < 1000000) (hne : c ≠ []) (k : Nat) (hk : k + 2 ≤ c.length) (eW : W [.str c, .int .u8 58] = some (.sv (.int .i64 (k : Int)))) (fl : List SV) (g v : List UInt8) (eF : F52 [.str (c.take k)] = some (.sv (.sl fl))) (eJ : F122 [.sl fl, .str [32]] = some (.sv (.str g))) (hv : v = c.drop (k + 2)) (hg : g = sName) (K : List Box) :
    evCA E cf m b5020_0 (stA5020 s X i K) = some (.normal, stB5020 s X (i + 1) (K ++ [.live [.sv (.str v), .sv .nilS, .sv .nilS]]) K.length 0) ∧
    ∀ b n C, K[b]? = some (.live C) → C.length = (n + 1) * 3 → n < 1000000 → evCA E cf m b5020_0 (stB5020 s X i K b n) = some (.normal, stB5020 s X (i + 1) (K.set b (.frz []) ++ [.live ((C.map Cell.plain ++ ([.str v, .nilS, .nilS] : List SV)).map .sv)]) K.length (n + 1)) := by
  have w1 : binSV .add (.int .i64 (i : Int)) (.int .i64 1) = some (.int .i64 ((i : Int) + 1)) := addI (by rw [IntKind.wrap_i64]; omega)
  have hlss : binSV .lss (.int .i64 (i : Int)) (.int .i64 (X.length : Int)) = some (.bool true) := by
    simp only [binSV, if_true, show (i : Int) < (X.length : Int) from by omega, decide_true]
  have e1 := eqlS c []
  rw [show (c == []) = false from by simpa using hne] at e1
  have e2 : binSV .lss (.int .i64 (k : Int)) (.int .i64 0) = some (.bool false) := by simp only [binSV, if_true, decide_eq_false (show ¬ (k : Int) < 0 from by omega)]
  have e3 : binSV .add (.int .i64 (k : Int)) (.int .i64 2) = some (.int .i64 ((k : Int) + 2)) := addI (by rw [IntKind.wrap_i64]; omega)
  have e4 : binSV .gtr (.int .i64 ((k : Int) + 2)) (.int .i64 (c.length : Int)) = some (.bool false) := by simp only [binSV, if_true, decide_eq_false (show ¬ (k : Int) + 2 > (c.length : Int) from by omega)]
  have e5 := eqlS g [110, 97, 109, 101]
  rw [show (g == [110, 97, 109, 101]) = true from by simp [hg, sName]] at e5
  have c1 : k ≤ c.length := by omega
  have c2 : (k : Int) + 2 ≤ (c.length : Int) := by omega
  have c3 : (0 : Int) ≤ (k : Int) + 2 := by omega
  have c4 : ((k : Int) + 2).toNat = k + 2 := by omega
  have c5 : (k : Int) ≤ (c.length : Int) := by omega
  have hv' : c.drop (k + 2) = v := hv.symm
  unfold stA5020 stB5020
  refine ⟨?_, fun b n C hKb hC hn => ?_⟩
  · simp [-binSV, b5020_0, hlss, hi, hc, e1, pW, eW, e2, e3, e4, e5, c1, c2, c3, c4, c5, hk, hv', h52, eF, h122, eJ, w1]
  · have q1 : (n + 1 + 1) * 64 ≤ 140737488355328 := by omega
    have q2 : n + 1 + 1 ≤ 140737488355328 := by omega
    simp [-binSV, b5020_0, hlss, hi, hc, e1, pW, eW, e2, e3, e4, e5, c1, c2, c3, c4, c5, hk, hv', h52, eF, h122, eJ, w1, hKb, hC, q1, q2]

set_option maxRecDepth 100000 in
set_option maxHeartbeats 8000000 in
theorem pair5020 (E : Env) (cf : CallF) (m : Nat) (W : List SV → Option AV) (pW : E.pure 40 = some W) (h52 : E.pure 61 = some F52) (h122 : E.pure 60 = some F122) (s : List UInt8) (X : List SV) (hX : X.length < 1000000) (i : Nat) (hi : i < X.length) (c : List UInt8) (hc : ∀ h : i < X.length, X[i]'h = .str c) (hcl : c.length < 1000000) (hne : c ≠ []) (k : Nat) (hk : k + 2 ≤ c.length) (eW : W [.str c, .int .u8 58] = some (.sv (.int .i64 (k : Int)))) (fl : List SV) (g v : List UInt8) (eF : F52 [.str (c.take k)] = some (.sv (.sl fl))) (eJ : F122 [.sl fl, .str [32]] = some (.sv (.str g))) (hv : v = c.drop (k + 2)) (hg : g ≠ sName) (K : List Box) :
    evCA E cf m b5020_0 (stA5020 s X i K) = some (.ret, bad5020 K) ∧
    ∀ b n C (S : List (List UInt8)), K[b]? = some (.live C) → C.length = (n + 1) * 3 → n < 1000000 → S.length < 1000000 → C[n * 3 + 2]? = some (accC 9 (strs S)) → evCA E cf m b5020_0 (stB5020 s X i K b n) = some (.normal, stB5020 s X (i + 1) (K.set b (.live (C.set (n * 3 + 2) (.own 9 (strs (S ++ [g, v])))))) b n) := by
  have w1 : binSV .add (.int .i64 (i : Int)) (.int .i64 1) = some (.int .i64 ((i : Int) + 1)) := addI (by rw [IntKind.wrap_i64]; omega)
  have hlss : binSV .lss (.int .i64 (i : Int)) (.int .i64 (X.length : Int)) = some (.bool true) := by
    simp only [binSV, if_true, show (i : Int) < (X.length : Int) from by omega, decide_true]
  have e1 := eqlS c []
  rw [show (c == []) = false from by simpa using hne] at e1
  have e2 : binSV .lss (.int .i64 (k : Int)) (.int .i64 0) = some (.bool false) := by simp only [binSV, if_true, decide_eq_false (show ¬ (k : Int) < 0 from by omega)]
  have e3 : binSV .add (.int .i64 (k : Int)) (.int .i64 2) = some (.int .i64 ((k : Int) + 2)) := addI (by rw [IntKind.wrap_i64]; omega)
  have e4 : binSV .gtr (.int .i64 ((k : Int) + 2)) (.int .i64 (c.length : Int)) = some (.bool false) := by simp only [binSV, if_true, decide_eq_false (show ¬ (k : Int) + 2 > (c.length : Int) from by omega)]
  have e5 := nneS hg
  have c1 : k ≤ c.length := by omega
  have c2 : (k : Int) + 2 ≤ (c.length : Int) := by omega
  have c3 : (0 : Int) ≤ (k : Int) + 2 := by omega
  have c4 : ((k : Int) + 2).toNat = k + 2 := by omega
  have c5 : (k : Int) ≤ (c.length : Int) := by omega
  have hv' : c.drop (k + 2) = v := hv.symm
  have z0 : binSV .eql (.int .i64 0) (.int .i64 0) = some (.bool true) := rfl
  unfold stA5020 stB5020 bad5020
  refine ⟨?_, fun b n C S hKb hC hn hS hcell => ?_⟩
  · simp [-binSV, b5020_0, hlss, hi, hc, e1, pW, eW, e2, e3, e4, e5, c1, c2, c3, c4, c5, hk, hv', h52, eF, h122, eJ, w1, z0]
  · have hb : b < K.length := (List.getElem?_eq_some_iff.1 hKb).1
    have hKg : K[b]'hb = .live C := (List.getElem?_eq_some_iff.1 hKb).2
    have q3 : n * 3 + 2 < C.length := by omega
    have q9 : n * 3 + 2 < (n + 1) * 3 := by omega
    have z1 : binSV .eql (.int .i64 ((n : Int) + 1)) (.int .i64 0) = some (.bool false) := by
      simp only [binSV, if_true]
      rw [show (((n : Int) + 1) == 0) = false from by rw [Bool.eq_false_iff]; simp; omega]
    have z2 : binSV .sub (.int .i64 ((n : Int) + 1)) (.int .i64 1) = some (.int .i64 (n : Int)) := by
      simp only [binSV, if_true]
      rw [show IntKind.i64.wrap ((n : Int) + 1 - 1) = (n : Int) from by rw [IntKind.wrap_i64]; omega]
    have z3 : (n : Int) < (n : Int) + 1 := by omega
    cases S with
    | nil =>
      have hcell' : C[n * 3 + 2]? = some (.sv .nilS) := hcell
      have hcg : C[n * 3 + 2]'q3 = .sv .nilS := by
        rw [List.getElem?_eq_getElem q3] at hcell'
        exact Option.some.inj hcell'
      have hcA : cellsAtA { nt := 0, tm := [], lz := none, bx := [.live C], df := [] } (.ptr 0 (n * 3 + 2)) = some [.nilS] := by
        show some ((C.drop (n * 3 + 2)).map _) = _
        rw [drop_one hcell' (by omega)]
        rfl
      simp [cellsAtA] at hcA
      simp [-binSV, hcA, q9, b5020_0, hlss, hi, hc, e1, pW, eW, e2, e3, e4, e5, c1, c2, c3, c4, c5, hk, hv', h52, eF, h122, eJ, w1, hKg, hb, hC, z1, z2, z3, q3, hcell', hcg, strs]
    | cons y S =>
      have hcell' : C[n * 3 + 2]? = some (.own 9 (.str y :: strs S)) := hcell
      have hcg : C[n * 3 + 2]'q3 = .own 9 (.str y :: strs S) := by
        rw [List.getElem?_eq_getElem q3] at hcell'
        exact Option.some.inj hcell'
      have hcA : cellsAtA { nt := 0, tm := [], lz := none, bx := [.live C], df := [] } (.ptr 0 (n * 3 + 2)) = some [.sl (.str y :: strs S)] := by
        show some ((C.drop (n * 3 + 2)).map _) = _
        rw [drop_one hcell' (by omega)]
        rfl
      have hsl : (strs S).length = S.length := strs_length S
      simp only [List.length_cons] at hS
      have q1 : (S.length + 1 + 1 + 1) * 16 ≤ 140737488355328 := by omega
      have q2 : S.length + 1 + 1 + 1 ≤ 140737488355328 := by omega
      have q4 : strs (y :: S ++ [g, v]) = .str y :: (strs S ++ [.str g, .str v]) := by simp [strs]
      rw [q4]
      generalize strs S = T at *
      rw [← hsl] at q1 q2
      simp [cellsAtA] at hcA
      simp [-binSV, hcA, q9, b5020_0, hlss, hi, hc, e1, pW, eW, e2, e3, e4, e5, c1, c2, c3, c4, c5, hk, hv', h52, eF, h122, eJ, w1, hKg, hb, hC, z1, z2, z3, q1, q2, q3, hcell', hcg]

/-! ### Rows as cells -/

def rowC3 (r : RowD) : List SV := [.str r.name, .sl [], .sl (strs r.S)]

def InvB (K : List Box) (b n : Nat) (rs : List RowD) : Prop := ∃ (rs0 : List RowD) (nm : List UInt8) (S : List (List UInt8)) (P : List Cell), rs = rs0 ++ [⟨nm, [], S⟩] ∧ rs0.length = n ∧ K[b]? = some (.live (P ++ [.sv (.str nm), .sv .nilS, accC 9 (strs S)])) ∧ P.length = n * 3 ∧ P.map Cell.plain = rs0.flatMap rowC3

def FitB (i : Nat) (rs : List RowD) : Prop := rs.length ≤ i ∧ ∀ r ∈ rs, r.N = [] ∧ r.name.length < 2147483648 ∧ r.S.length ≤ 2 * i ∧ ∀ s ∈ r.S, s.length < 2147483648

theorem accC_plain (S : List (List UInt8)) : (accC 9 (strs S)).plain = .sl (strs S) := by
  cases S <;> rfl

theorem InvB.cells {K : List Box} {b n : Nat} {rs : List RowD} (h : InvB K b n rs) : ∃ C, K[b]? = some (.live C) ∧ C.length = (n + 1) * 3 ∧ C.map Cell.plain = rs.flatMap rowC3 ∧ rs.length = n + 1 := by
  obtain ⟨rs0, nm, S, P, rfl, h1, h2, h3, h4⟩ := h
  refine ⟨_, h2, by rw [List.length_append, h3]; simp; omega, ?_, by simp [h1]⟩
  have e : [Cell.sv (.str nm), .sv .nilS, accC 9 (strs S)].map Cell.plain = rowC3 ⟨nm, [], S⟩ := by
    simp only [List.map_cons, List.map_nil, accC_plain]
    rfl
  rw [List.map_append, h4, e]
  simp

theorem chunk_rows : ∀ (rs : List RowD), (∀ r ∈ rs, r.N = []) → chunk 3 rs.length (rs.flatMap rowC3) = rowsSV rs
  | [], _ => rfl
  | r :: rs, h => by
    have hN := h r (by simp)
    obtain ⟨nm, N, S⟩ := r
    simp only at hN
    subst hN
    rw [List.length_cons, List.flatMap_cons, chunk]
    have e1 : (rowC3 ⟨nm, [], S⟩ ++ rs.flatMap rowC3).take 3 = rowC3 ⟨nm, [], S⟩ := by simp [rowC3]
    have e2 : (rowC3 ⟨nm, [], S⟩ ++ rs.flatMap rowC3).drop 3 = rs.flatMap rowC3 := by simp [rowC3]
    rw [e1, e2, chunk_rows rs (fun q hq => h q (by simp [hq]))]
    rw [if_neg (by decide)]
    rfl

theorem InvB.name {K : List Box} {b n : Nat} {rs : List RowD} (h : InvB K b n rs) (v : List UInt8) : ∃ C, K[b]? = some (.live C) ∧ C.length = (n + 1) * 3 ∧ InvB (K.set b (.frz []) ++ [.live ((C.map Cell.plain ++ ([.str v, .nilS, .nilS] : List SV)).map .sv)]) K.length (n + 1) (rs ++ [⟨v, [], []⟩]) := by
  obtain ⟨C, h1, h2, h3, h4⟩ := h.cells
  refine ⟨C, h1, h2, rs, v, [], (C.map Cell.plain).map .sv, rfl, h4, ?_, by simp [h2], ?_⟩
  · rw [List.getElem?_append_right (by simp)]
    simp [strs, accC]
  · rw [List.map_map, h3]
    have : ∀ l : List RowD, (l.flatMap rowC3).map (Cell.plain ∘ Cell.sv) = l.flatMap rowC3 := by
      intro l
      induction l with
      | nil => rfl
      | cons r l ih => rw [List.flatMap_cons, List.map_append, ih]; rfl
    exact this rs

theorem InvB.pair {K : List Box} {b n : Nat} {rs : List RowD} (h : InvB K b n rs) (g v : List UInt8) : ∃ C S rs', K[b]? = some (.live C) ∧ C.length = (n + 1) * 3 ∧ (∃ r ∈ rs, r.S = S) ∧ C[n * 3 + 2]? = some (accC 9 (strs S)) ∧ InvB (K.set b (.live (C.set (n * 3 + 2) (.own 9 (strs (S ++ [g, v])))))) b n rs' ∧ rs'.length = rs.length ∧ ∀ r ∈ rs', r ∈ rs ∨ ∃ q ∈ rs, r.name = q.name ∧ r.N = q.N ∧ r.S = q.S ++ [g, v] := by
  obtain ⟨rs0, nm, S, P, rfl, h1, h2, h3, h4⟩ := h
  have hb : b < K.length := (List.getElem?_eq_some_iff.1 h2).1
  have e1 : (P ++ [Cell.sv (.str nm), .sv .nilS, accC 9 (strs S)])[n * 3 + 2]? = some (accC 9 (strs S)) := by
    rw [List.getElem?_append_right (by omega), show n * 3 + 2 - P.length = 2 from by omega]
    rfl
  have e2 : (P ++ [Cell.sv (.str nm), .sv .nilS, accC 9 (strs S)]).set (n * 3 + 2) (.own 9 (strs (S ++ [g, v]))) = P ++ [Cell.sv (.str nm), .sv .nilS, accC 9 (strs (S ++ [g, v]))] := by
    rw [List.set_append_right _ _ (by omega), show n * 3 + 2 - P.length = 2 from by omega]
    have : accC 9 (strs (S ++ [g, v])) = .own 9 (strs (S ++ [g, v])) := by cases S <;> rfl
    rw [this]
    rfl
  refine ⟨_, S, rs0 ++ [⟨nm, [], S ++ [g, v]⟩], h2, by rw [List.length_append, h3]; simp; omega, ⟨⟨nm, [], S⟩, by simp, rfl⟩, e1, ⟨rs0, nm, S ++ [g, v], P, rfl, h1, ?_, h3, h4⟩, by simp, ?_⟩
  · rw [e2]
    simp [hb]
  · intro r hr
    rcases List.mem_append.1 hr with hr | hr
    · exact .inl (List.mem_append_left _ hr)
    · rw [List.mem_singleton.1 hr]
      exact .inr ⟨⟨nm, [], S⟩, by simp, rfl, rfl, rfl⟩

/-! ### A line, all lines -/

/-- What a line comes to: refused, nothing, a name, or a pair. -/
theorem line5020 (E : Env) (cf : CallF) (m : Nat) (hW : Has E 40 S2191) (h52 : E.pure 61 = some F52) (h122 : E.pure 60 = some F122) (s : List UInt8) (X : List SV) (hX : X.length < 400000) (i : Nat) (hi : i < X.length) (c : List UInt8) (hc : ∀ h : i < X.length, X[i]'h = .str c) (hcl : c.length ≤ 40000) :
    (∀ K, evCA E cf m b5020_0 (stA5020 s X i K) = some (.ret, bad5020 K) ∨ evCA E cf m b5020_0 (stA5020 s X i K) = some (.normal, stA5020 s X (i + 1) K) ∨ ∃ K' b rs, InvB K' b 0 rs ∧ FitB (i + 1) rs ∧ evCA E cf m b5020_0 (stA5020 s X i K) = some (.normal, stB5020 s X (i + 1) K' b 0)) ∧
    ∀ K b n rs, InvB K b n rs → FitB i rs → (∃ K', evCA E cf m b5020_0 (stB5020 s X i K b n) = some (.ret, bad5020 K')) ∨ ∃ K' b' n' rs', InvB K' b' n' rs' ∧ FitB (i + 1) rs' ∧ evCA E cf m b5020_0 (stB5020 s X i K b n) = some (.normal, stB5020 s X (i + 1) K' b' n') := by
  obtain ⟨W, pW, sW⟩ := hW
  have fit_up : ∀ rs, FitB i rs → FitB (i + 1) rs := fun rs h => ⟨by have := h.1; omega, fun r hr => by
    obtain ⟨a, b, c, d⟩ := h.2 r hr
    exact ⟨a, b, by omega, d⟩⟩
  by_cases he : c = []
  · exact ⟨fun K => .inr (.inl (emptyA5020 E cf m s X (by omega) i hi c hc he K)), fun K b n rs h1 h2 => .inr ⟨K, b, n, rs, h1, fit_up rs h2, emptyB5020 E cf m s X (by omega) i hi c hc he K b n⟩⟩
  · have eW := sW c 58 (by omega)
    rw [show (((58 : UInt8).toNat : Nat) : Int) = 58 from rfl, show (58 : UInt8).toNat = 58 from rfl] at eW
    have hbad : ∀ wv : Int, -1 ≤ wv → wv < 1000000 → whereI 58 0 c = wv → (wv < 0 ∨ wv + 2 > (c.length : Int)) → (∀ K, evCA E cf m b5020_0 (stA5020 s X i K) = some (.ret, bad5020 K)) ∧ ∀ K b n, evCA E cf m b5020_0 (stB5020 s X i K b n) = some (.ret, bad5020 K) := by
      intro wv h0 h1 hwv hb
      rw [hwv] at eW
      have := bad5020_where E cf m W pW s X (by omega) i hi c hc (by omega) he wv h0 h1 eW hb
      exact ⟨fun K => (this K).1, fun K => (this K).2⟩
    have fin : (∀ K, evCA E cf m b5020_0 (stA5020 s X i K) = some (.ret, bad5020 K)) ∧ (∀ K b n, evCA E cf m b5020_0 (stB5020 s X i K b n) = some (.ret, bad5020 K)) → _ := fun h => (⟨fun K => .inl (h.1 K), fun K b n rs _ _ => .inl ⟨K, h.2 K b n⟩⟩ : (∀ K, evCA E cf m b5020_0 (stA5020 s X i K) = some (.ret, bad5020 K) ∨ evCA E cf m b5020_0 (stA5020 s X i K) = some (.normal, stA5020 s X (i + 1) K) ∨ ∃ K' b rs, InvB K' b 0 rs ∧ FitB (i + 1) rs ∧ evCA E cf m b5020_0 (stA5020 s X i K) = some (.normal, stB5020 s X (i + 1) K' b 0)) ∧
    ∀ K b n rs, InvB K b n rs → FitB i rs → (∃ K', evCA E cf m b5020_0 (stB5020 s X i K b n) = some (.ret, bad5020 K')) ∨ ∃ K' b' n' rs', InvB K' b' n' rs' ∧ FitB (i + 1) rs' ∧ evCA E cf m b5020_0 (stB5020 s X i K b n) = some (.normal, stB5020 s X (i + 1) K' b' n'))
    rcases whereI_cases 58 c 0 with ⟨h1, _⟩ | ⟨k, hk1, hk2, _⟩
    · exact fin (hbad (-1) (by omega) (by omega) h1 (.inl (by omega)))
    · rw [Nat.zero_add] at hk2
      by_cases hk : k + 2 ≤ c.length
      · rw [hk2] at eW
        have htl : (c.take k).length ≤ 40000 := by rw [List.length_take]; omega
        have eF := F52_eq (c.take k) (by omega)
        obtain ⟨_, l1, l2⟩ := fieldsV_shape (c.take k)
        have hjl : (joinS [32] (fieldsL (c.take k))).length < 2147483648 := by
          have h1 := joinS_len (b := [32]) (fieldsL (c.take k))
          have h2 : ((fieldsL (c.take k)).map List.length).sum ≤ (fieldsL (c.take k)).length * 40000 := by
            have : ∀ l : List (List UInt8), (∀ x ∈ l, x.length ≤ 40000) → (l.map List.length).sum ≤ l.length * 40000 := by
              intro l
              induction l with
              | nil => intro _; simp
              | cons x l ih =>
                intro h
                have a := h x (by simp)
                have b := ih (fun y hy => h y (by simp [hy]))
                simp only [List.map_cons, List.sum_cons, List.length_cons]
                omega
            exact this _ (fun x hx => by have := l2 x hx; omega)
          simp only [List.length_cons, List.length_nil] at h1
          have h3 : (fieldsL (c.take k)).length ≤ 40001 := by omega
          have h4 : (fieldsL (c.take k)).length * 40000 ≤ 40001 * 40000 := Nat.mul_le_mul_right _ h3
          omega
        have eJ := F122_eq (fieldsL (c.take k)) [32] (by omega) (by omega)
        have hvl : (c.drop (k + 2)).length < 2147483648 := by rw [List.length_drop]; omega
        generalize hgd : joinS [32] (fieldsL (c.take k)) = g at *
        by_cases hg : g = sName
        · have hst := name5020 E cf m W pW h52 h122 s X (by omega) i hi c hc (by omega) he k hk eW (strs (fieldsL (c.take k))) g (c.drop (k + 2)) eF eJ rfl hg
          refine ⟨fun K => .inr (.inr ⟨_, _, [⟨c.drop (k + 2), [], []⟩], ⟨[], c.drop (k + 2), [], [], rfl, rfl, by simp [strs, accC], rfl, rfl⟩, ⟨by simp, ?_⟩, (hst K).1⟩), fun K b n rs hI hF => .inr ?_⟩
          · intro r hr
            rw [List.mem_singleton.1 hr]
            exact ⟨rfl, hvl, by simp, by simp⟩
          · obtain ⟨C, q1, q2, q3⟩ := hI.name (c.drop (k + 2))
            have hnl : n < 1000000 := by
              obtain ⟨_, _, _, _, hl⟩ := hI.cells
              have := hF.1
              omega
            refine ⟨_, _, _, _, q3, ⟨by rw [List.length_append]; have := hF.1; simp; omega, ?_⟩, (hst K).2 b n C q1 q2 hnl⟩
            intro r hr
            rcases List.mem_append.1 hr with hr | hr
            · exact (fit_up rs hF).2 r hr
            · rw [List.mem_singleton.1 hr]
              exact ⟨rfl, hvl, by simp, by simp⟩
        · have hst := pair5020 E cf m W pW h52 h122 s X (by omega) i hi c hc (by omega) he k hk eW (strs (fieldsL (c.take k))) g (c.drop (k + 2)) eF eJ rfl hg
          refine ⟨fun K => .inl (hst K).1, fun K b n rs hI hF => .inr ?_⟩
          obtain ⟨C, S, rs', q1, q2, ⟨r0, hr0, hS0⟩, q3, q4, q5, q6⟩ := hI.pair g (c.drop (k + 2))
          have hnl : n < 1000000 := by
            obtain ⟨_, _, _, _, hl⟩ := hI.cells
            have := hF.1
            omega
          have hSl : S.length < 1000000 := by
            have := (hF.2 r0 hr0).2.2.1
            rw [hS0] at this
            omega
          refine ⟨_, _, _, _, q4, ⟨by have := hF.1; omega, ?_⟩, (hst K).2 b n C S q1 q2 hnl hSl q3⟩
          intro r hr
          rcases q6 r hr with hr | ⟨q, hq, a1, a2, a3⟩
          · exact (fit_up rs hF).2 r hr
          · obtain ⟨z1, z2, z3, z4⟩ := hF.2 q hq
            refine ⟨by rw [a2]; exact z1, by rw [a1]; exact z2, by rw [a3]; simp; omega, fun x hx => ?_⟩
            rw [a3] at hx
            rcases List.mem_append.1 hx with hx | hx
            · exact z4 x hx
            · simp only [List.mem_cons, List.not_mem_nil, or_false] at hx
              rcases hx with rfl | rfl
              · exact hjl
              · exact hvl
      · exact fin (hbad (k : Int) (by omega) (by omega) hk2 (.inr (by omega)))

theorem loopB5020 (E : Env) (cf : CallF) (m : Nat) (hW : Has E 40 S2191) (h52 : E.pure 61 = some F52) (h122 : E.pure 60 = some F122) (s : List UInt8) (X : List SV) (hX : X.length < 400000) :
    ∀ (rest : List (List UInt8)) (pre : List SV) (i k : Nat) (K : List Box) (b n : Nat) (rs : List RowD), X = pre ++ strs rest → i = pre.length → (∀ x ∈ rest, x.length ≤ 40000) → InvB K b n rs → FitB i rs → rest.length < k →
      (∃ K', roundsA (evCA E cf m b5020_0) k (stB5020 s X i K b n) = some (.ret, bad5020 K')) ∨ ∃ K' b' n' rs', InvB K' b' n' rs' ∧ FitB X.length rs' ∧ roundsA (evCA E cf m b5020_0) k (stB5020 s X i K b n) = some (.exit 0, { nt := 76, tm := [(5, .grw b' (n' + 1) 3 35), (0, .sv (.str s))], lz := none, bx := K', df := [], mu := [35] }) := by
  intro rest
  induction rest with
  | nil =>
    intro pre i k K b n rs hsp hi _ hI hF hk
    obtain ⟨k, rfl⟩ : ∃ k', k = k' + 1 := ⟨k - 1, by omega⟩
    have hil : i = X.length := by rw [hsp, hi]; simp [strs]
    have hlt : ¬ (i < X.length) := by omega
    refine .inr ⟨K, b, n, rs, hI, by rw [← hil]; exact hF, roundsA_out ?_ (by simp)⟩
    simp [stB5020, b5020_0, hlt]
  | cons c rest ih =>
    intro pre i k K b n rs hsp hi hr hI hF hk
    obtain ⟨k, rfl⟩ : ∃ k', k = k' + 1 := ⟨k - 1, by omega⟩
    have hlt : i < X.length := by rw [hsp, hi]; simp [strs]
    have hc : ∀ h : i < X.length, X[i]'h = .str c := by subst hi; subst hsp; simp [strs]
    rcases (line5020 E cf m hW h52 h122 s X hX i hlt c hc (hr c (by simp))).2 K b n rs hI hF with ⟨K', h⟩ | ⟨K', b', n', rs', h1, h2, h3⟩
    · exact .inl ⟨K', roundsA_out h (by simp)⟩
    · rw [roundsA_step h3]
      exact ih (pre ++ [.str c]) (i + 1) k K' b' n' rs' (by rw [hsp]; simp [strs]) (by simp [hi]) (fun x hx => hr x (by simp [hx])) h1 h2 (by simp at hk; omega)

theorem loopA5020 (E : Env) (cf : CallF) (m : Nat) (hW : Has E 40 S2191) (h52 : E.pure 61 = some F52) (h122 : E.pure 60 = some F122) (s : List UInt8) (X : List SV) (hX : X.length < 400000) :
    ∀ (rest : List (List UInt8)) (pre : List SV) (i k : Nat) (K : List Box), X = pre ++ strs rest → i = pre.length → (∀ x ∈ rest, x.length ≤ 40000) → rest.length < k →
      (∃ K', roundsA (evCA E cf m b5020_0) k (stA5020 s X i K) = some (.ret, bad5020 K')) ∨ (∃ K', roundsA (evCA E cf m b5020_0) k (stA5020 s X i K) = some (.exit 0, { nt := 76, tm := [(5, .sv .nilS), (0, .sv (.str s))], lz := none, bx := K', df := [], mu := [35] })) ∨ ∃ K' b' n' rs', InvB K' b' n' rs' ∧ FitB X.length rs' ∧ roundsA (evCA E cf m b5020_0) k (stA5020 s X i K) = some (.exit 0, { nt := 76, tm := [(5, .grw b' (n' + 1) 3 35), (0, .sv (.str s))], lz := none, bx := K', df := [], mu := [35] }) := by
  intro rest
  induction rest with
  | nil =>
    intro pre i k K hsp hi _ hk
    obtain ⟨k, rfl⟩ : ∃ k', k = k' + 1 := ⟨k - 1, by omega⟩
    have hlt : ¬ (i < X.length) := by rw [hsp, hi]; simp [strs]
    refine .inr (.inl ⟨K, roundsA_out ?_ (by simp)⟩)
    simp [stA5020, b5020_0, hlt]
  | cons c rest ih =>
    intro pre i k K hsp hi hr hk
    obtain ⟨k, rfl⟩ : ∃ k', k = k' + 1 := ⟨k - 1, by omega⟩
    have hlt : i < X.length := by rw [hsp, hi]; simp [strs]
    have hc : ∀ h : i < X.length, X[i]'h = .str c := by subst hi; subst hsp; simp [strs]
    rcases (line5020 E cf m hW h52 h122 s X hX i hlt c hc (hr c (by simp))).1 K with h | h | ⟨K', b', rs', h1, h2, h3⟩
    · exact .inl ⟨K, roundsA_out h (by simp)⟩
    · rw [roundsA_step h]
      exact ih (pre ++ [.str c]) (i + 1) k K (by rw [hsp]; simp [strs]) (by simp [hi]) (fun x hx => hr x (by simp [hx])) (by simp at hk; omega)
    · rw [roundsA_step h3]
      rcases loopB5020 E cf m hW h52 h122 s X hX rest (pre ++ [.str c]) (i + 1) k K' b' 0 rs' (by rw [hsp]; simp [strs]) (by simp [hi]) (fun x hx => hr x (by simp [hx])) h1 h2 (by simp at hk; omega) with h | h
      · exact .inl h
      · exact .inr (.inr h)

def S31cr (F : List SV → Option AV) : Prop := SMeanG 17 crOk crText F
theorem ev31cr (E : Env) (h : E.code 38 = some c31) (h78 : E.pure 93 = some F78) (h17 : Has E 17 S5017) : S31cr (autoF E 38) := mean31 E h h78 _ h17

def crRd (s : List UInt8) (rs : List RowD) : Prop := crText rs = s ∧ s.all plainC = true

def S5020 (F : List SV → Option AV) : Prop := SReadG crRd crOk F

set_option maxRecDepth 100000 in
set_option maxHeartbeats 4000000 in
theorem ev5020 (E : Env) (h : E.code 20 = some c5020) (h28 : E.pure 59 = some F28) (hW : Has E 40 S2191) (h52 : E.pure 61 = some F52) (h122 : E.pure 60 = some F122) (hM : Has E 38 S31cr) : S5020 (autoF E 20) := by
  obtain ⟨M, pM, sM⟩ := hM
  intro s hs
  have e28 := F28_eq s (by omega)
  obtain ⟨_, k1, k2⟩ := linesV_shape s
  have hXl : (strs (linesL s)).length = (linesL s).length := strs_length _
  have hl := loopA5020 E (evF E 50100) 50100 hW h52 h122 s (strs (linesL s)) (by omega) (linesL s) [] 0 50100 [] rfl rfl (fun x hx => by have := k2 x hx; omega) (by omega)
  unfold stA5020 at hl
  simp only [Int.ofNat_zero, Int.natCast_zero] at hl
  have hmean : ∀ rs : List RowD, rowsFit3 rs → (∃ r, M [.str s, .sl (rowsSV rs), .bool true, .fn 17 [] [], .bool false] = some (.sv (.tup r)) ∧ ((r = [.sl (rowsSV rs), .bool true, .int .i64 1] ∧ crRd s rs ∧ crOk rs = true) ∨ r = [.sl [], .bool false, .int .i64 2])) := by
    intro rs hf
    refine ⟨_, sM s rs true (by omega) hf, ?_⟩
    split
    · rename_i hc
      exact .inl ⟨rfl, ⟨hc.2.2.2, hc.2.1⟩, hc.2.2.1⟩
    · exact .inr rfl
  rcases hl with ⟨K', hl⟩ | ⟨K', hl⟩ | ⟨K', b, n, rs, hI, hF, hl⟩
  · right
    refine ⟨[], false, autoA_sv (n := 50100) ?_ rfl⟩
    unfold evPA
    simp only [h]
    unfold bad5020 at hl
    generalize strs (linesL s) = LL at *
    simp [c5020, h28, e28, hl]
  · obtain ⟨r, eM, hr⟩ := hmean [] ⟨by simp, by simp⟩
    rw [show rowsSV [] = [] from rfl] at eM hr
    rcases hr with ⟨rfl, h1, h2⟩ | rfl
    · left
      refine ⟨[], h1, ⟨by simp, by simp⟩, h2, autoA_sv (n := 50100) ?_ rfl⟩
      unfold evPA
      simp only [h]
      generalize strs (linesL s) = LL at *
      simp [c5020, h28, e28, hl, pM, eM, rowsSV]
    · right
      refine ⟨[], false, autoA_sv (n := 50100) ?_ rfl⟩
      unfold evPA
      simp only [h]
      generalize strs (linesL s) = LL at *
      simp [c5020, h28, e28, hl, pM, eM]
  · have hfit : rowsFit3 rs := ⟨by have := hF.1; omega, fun r hr => by
      obtain ⟨a1, a2, a3, a4⟩ := hF.2 r hr
      exact ⟨a2, by rw [a1]; simp, by rw [a1]; simp, by omega, a4⟩⟩
    obtain ⟨C, q1, q2, q3, q4⟩ := hI.cells
    have hch := chunk_rows rs (fun r hr => (hF.2 r hr).1)
    rw [← q3, q4] at hch
    have hlen : (C.map Cell.plain).length = (n + 1) * 3 := by rw [List.length_map, q2]
    obtain ⟨r, eM, hr⟩ := hmean rs hfit
    rw [← hch] at eM
    rcases hr with ⟨rfl, h1, h2⟩ | rfl
    · left
      refine ⟨rs, h1, hfit, h2, autoA_sv (n := 50100) ?_ rfl⟩
      rw [← hch] at eM ⊢
      unfold evPA
      simp only [h]
      generalize strs (linesL s) = LL at *
      have hbl : b < K'.length := (List.getElem?_eq_some_iff.1 q1).1
      have hKg : K'[b]'hbl = .live C := (List.getElem?_eq_some_iff.1 q1).2
      simp [-chunk, c5020, h28, e28, hl, q1, hbl, hKg, Box.cells, hlen, q2, pM, eM]
    · right
      refine ⟨[], false, autoA_sv (n := 50100) ?_ rfl⟩
      unfold evPA
      simp only [h]
      generalize strs (linesL s) = LL at *
      have hbl : b < K'.length := (List.getElem?_eq_some_iff.1 q1).1
      have hKg : K'[b]'hbl = .live C := (List.getElem?_eq_some_iff.1 q1).2
      simp [-chunk, c5020, h28, e28, hl, q1, hbl, hKg, Box.cells, hlen, q2, pM, eM]

end Go.Ev

set_option linter.unusedSimpArgs false
set_option linter.unusedVariables false
namespace Go.Ev
open Go.Proofs

/-! ### A row's cells -/

def crZero (k : UInt8) : SV := if k = 98 then .bool false else if k = 115 then .str [] else .nilP
def crFin (x : CrF) (a : List UInt8 × Bool) : SV := if a.2 = true then crCell x a.1 else crZero x.k
def crAt (nm : List UInt8) (pre : List (List UInt8)) : List SV := crTab.map fun x => crFin x (crLk x.lab pre (nm, x.lab == sName))

theorem crAt_len (nm : List UInt8) (pre : List (List UInt8)) : (crAt nm pre).length = 21 := rfl

def crZ : List SV := [.nilP, .bool false, .nilP, .nilP, .nilP, .nilP, .str [], .str [], .str [], .nilP, .nilP, .nilP, .nilP, .str [], .str [], .nilP, .nilP, .nilP, .str [], .str [], .nilP]

theorem crAt_nil (nm : List UInt8) : crAt nm [] = crZ.set 14 (.str nm) := by rfl

theorem crLk_snoc (lab f v : List UInt8) : ∀ (n : Nat) (pre : List (List UInt8)) (a : List UInt8 × Bool), pre.length ≤ n → pre.length % 2 = 0 → crLk lab (pre ++ [f, v]) a = if f = lab then (v, true) else crLk lab pre a
  | _, [], a, _, _ => by simp [crLk]
  | _, [_], _, _, h => by simp at h
  | 0, _ :: _ :: _, _, h, _ => by simp at h
  | n + 1, g :: w :: l, a, hn, he => by
    rw [List.cons_append, List.cons_append, crLk, crLk]
    exact crLk_snoc lab f v n l _ (by simp only [List.length_cons] at hn; omega) (by simp only [List.length_cons] at he; omega)

theorem crTab_inj {i j : Nat} {x y : CrF} (hx : crTab[i]? = some x) (hy : crTab[j]? = some y) (h : x.lab = y.lab) : i = j := by
  have h1 : (crTab.map CrF.lab)[i]? = some x.lab := by rw [List.getElem?_map, hx]; rfl
  have h2 : (crTab.map CrF.lab)[j]? = some x.lab := by rw [List.getElem?_map, hy, h]; rfl
  obtain ⟨i1, i2⟩ := List.getElem?_eq_some_iff.1 h1
  obtain ⟨j1, j2⟩ := List.getElem?_eq_some_iff.1 h2
  have hp := List.pairwise_iff_getElem.1 crTab_nodup
  rcases Nat.lt_trichotomy i j with hlt | heq | hgt
  · exact absurd (i2.trans j2.symm) (hp i j i1 j1 hlt)
  · exact heq
  · exact absurd (j2.trans i2.symm) (hp j i j1 i1 hgt)

theorem crAt_snoc (nm f v : List UInt8) (pre : List (List UInt8)) (he : pre.length % 2 = 0) {j : Nat} {x : CrF} (hx : crTab[j]? = some x) (hf : x.lab = f) : crAt nm (pre ++ [f, v]) = (crAt nm pre).set j (crCell x v) := by
  apply List.ext_getElem?
  intro i
  unfold crAt
  rw [List.getElem?_set, List.getElem?_map, List.getElem?_map]
  have hjl : j < 21 := (List.getElem?_eq_some_iff.1 hx).1
  by_cases hij : j = i
  · subst hij
    rw [if_pos rfl, if_pos (by rw [List.length_map]; exact hjl), hx]
    simp only [Option.map_some]
    rw [crLk_snoc _ _ _ _ pre _ (Nat.le_refl _) he, if_pos hf.symm]
    rfl
  · rw [if_neg hij]
    cases hy : crTab[i]? with
    | none => rfl
    | some y =>
      simp only [Option.map_some]
      rw [crLk_snoc _ _ _ _ pre _ (Nat.le_refl _) he, if_neg (fun h => hij (crTab_inj hx hy (hf.trans h)))]

theorem crCell_one (x : CrF) (v : List UInt8) : (crCell x v).can0 = crCell x v := by
  unfold crCell
  split
  · rfl
  · split
    · rfl
    · split <;> rfl

theorem crAt_can (nm : List UInt8) (pre : List (List UInt8)) : (crAt nm pre).map SV.can0 = crAt nm pre := by
  unfold crAt
  rw [List.map_map]
  refine List.map_congr_left fun x _ => ?_
  simp only [Function.comp, crFin]
  split
  · exact crCell_one _ _
  · unfold crZero
    split
    · rfl
    · split <;> rfl

def crCellsR (rs : List RowD) : List SV := rs.flatMap fun r => crAt r.name r.S

theorem crCellsR_len : ∀ rs : List RowD, (crCellsR rs).length = rs.length * 21
  | [] => rfl
  | r :: rs => by
    have := crCellsR_len rs
    unfold crCellsR at this ⊢
    rw [List.flatMap_cons, List.length_append, this, crAt_len, List.length_cons]
    omega

theorem crCellsR_can : ∀ rs : List RowD, (crCellsR rs).map SV.can0 = crCellsR rs
  | [] => rfl
  | r :: rs => by
    have := crCellsR_can rs
    unfold crCellsR at this ⊢
    rw [List.flatMap_cons, List.map_append, this, crAt_can]

theorem plain_cells {V : List SV} (h : V.map SV.can0 = V) : (V.map Cell.sv).map Cell.plain = V := by
  rw [List.map_map]
  exact h

/-! ### Any key -/

theorem crVal_dec {k : UInt8} {v : List UInt8} (hb : k ≠ 98) (hs : k ≠ 115) (h : crVal k v = true) : ∃ n, n < 9223372036854775808 ∧ v = decS n := by
  unfold crVal at h
  rw [if_neg hb, if_neg hs] at h
  split at h
  · rename_i n hn
    exact ⟨n, of_decide_eq_true h, (decV_dec hn).symm⟩
  · cases h

theorem kvAny (E : Env) (H : KvH E) (n i off : Nat) (C : List Cell) (bx : List Box) (hb : bx[i]? = some (.live C)) (ho : off + 21 ≤ C.length) {j : Nat} {x : CrF} (hx : crTab[j]? = some x) (v : List UInt8) (hv : x.lab = sName ∨ (crBad x.lab = false ∧ crVal x.k v = true)) :
    ∃ X, evF E (n + 3) 129 [.ptr i off, .sv (.str x.lab), .sv (.str v)] bx = some (.sv .nilI, bx.set i (.live (C.set (off + j) (.sv (crCell x v)))) ++ X) := by
  have hjl : j < 21 := (List.getElem?_eq_some_iff.1 hx).1
  have dec_of : ∀ k : UInt8, k ≠ 98 → k ≠ 115 → x.k = k → x.lab ≠ sName → ∃ n, n < 9223372036854775808 ∧ v = decS n := fun k h1 h2 hk hn => by
    rcases hv with hv | hv
    · exact absurd hv hn
    · rw [hk] at hv
      exact crVal_dec h1 h2 hv.2
  match j, hjl with
  | 0, _ =>
    have hxe : x = cr0 := (Option.some.inj hx).symm
    subst hxe
    rcases hv with hv | hv
    · exact absurd hv (by decide)
    · exact absurd hv.1 (by decide)
  | 1, _ =>
    have hxe : x = cr1 := (Option.some.inj hx).symm
    subst hxe
    exact kv1 E H n i off C bx hb ho v
  | 2, _ =>
    have hxe : x = cr2 := (Option.some.inj hx).symm
    subst hxe
    obtain ⟨q, hq, rfl⟩ := dec_of 117 (by decide) (by decide) rfl (by decide)
    obtain ⟨X, hX⟩ := kv2 E H n i off C bx hb ho q (by omega)
    refine ⟨X, ?_⟩
    have hc : crCell cr2 (decS q) = .ref [.int .u64 (q : Int)] := by
      show SV.ref [.int .u64 (crNum (decS q) : Int)] = _
      rw [crNum_dec (by omega)]
    rw [hc]
    exact hX
  | 3, _ =>
    have hxe : x = cr3 := (Option.some.inj hx).symm
    subst hxe
    obtain ⟨q, hq, rfl⟩ := dec_of 117 (by decide) (by decide) rfl (by decide)
    obtain ⟨X, hX⟩ := kv3 E H n i off C bx hb ho q (by omega)
    refine ⟨X, ?_⟩
    have hc : crCell cr3 (decS q) = .ref [.int .u64 (q : Int)] := by
      show SV.ref [.int .u64 (crNum (decS q) : Int)] = _
      rw [crNum_dec (by omega)]
    rw [hc]
    exact hX
  | 4, _ =>
    have hxe : x = cr4 := (Option.some.inj hx).symm
    subst hxe
    rcases hv with hv | hv
    · exact absurd hv (by decide)
    · exact absurd hv.1 (by decide)
  | 5, _ =>
    have hxe : x = cr5 := (Option.some.inj hx).symm
    subst hxe
    obtain ⟨q, hq, rfl⟩ := dec_of 117 (by decide) (by decide) rfl (by decide)
    obtain ⟨X, hX⟩ := kv5 E H n i off C bx hb ho q (by omega)
    refine ⟨X, ?_⟩
    have hc : crCell cr5 (decS q) = .ref [.int .u64 (q : Int)] := by
      show SV.ref [.int .u64 (crNum (decS q) : Int)] = _
      rw [crNum_dec (by omega)]
    rw [hc]
    exact hX
  | 6, _ =>
    have hxe : x = cr6 := (Option.some.inj hx).symm
    subst hxe
    exact kv6 E H n i off C bx hb ho v
  | 7, _ =>
    have hxe : x = cr7 := (Option.some.inj hx).symm
    subst hxe
    exact kv7 E H n i off C bx hb ho v
  | 8, _ =>
    have hxe : x = cr8 := (Option.some.inj hx).symm
    subst hxe
    exact kv8 E H n i off C bx hb ho v
  | 9, _ =>
    have hxe : x = cr9 := (Option.some.inj hx).symm
    subst hxe
    obtain ⟨q, hq, rfl⟩ := dec_of 117 (by decide) (by decide) rfl (by decide)
    obtain ⟨X, hX⟩ := kv9 E H n i off C bx hb ho q (by omega)
    refine ⟨X, ?_⟩
    have hc : crCell cr9 (decS q) = .ref [.int .u64 (q : Int)] := by
      show SV.ref [.int .u64 (crNum (decS q) : Int)] = _
      rw [crNum_dec (by omega)]
    rw [hc]
    exact hX
  | 10, _ =>
    have hxe : x = cr10 := (Option.some.inj hx).symm
    subst hxe
    obtain ⟨q, hq, rfl⟩ := dec_of 117 (by decide) (by decide) rfl (by decide)
    obtain ⟨X, hX⟩ := kv10 E H n i off C bx hb ho q (by omega)
    refine ⟨X, ?_⟩
    have hc : crCell cr10 (decS q) = .ref [.int .u64 (q : Int)] := by
      show SV.ref [.int .u64 (crNum (decS q) : Int)] = _
      rw [crNum_dec (by omega)]
    rw [hc]
    exact hX
  | 11, _ =>
    have hxe : x = cr11 := (Option.some.inj hx).symm
    subst hxe
    obtain ⟨q, hq, rfl⟩ := dec_of 117 (by decide) (by decide) rfl (by decide)
    obtain ⟨X, hX⟩ := kv11 E H n i off C bx hb ho q (by omega)
    refine ⟨X, ?_⟩
    have hc : crCell cr11 (decS q) = .ref [.int .u64 (q : Int)] := by
      show SV.ref [.int .u64 (crNum (decS q) : Int)] = _
      rw [crNum_dec (by omega)]
    rw [hc]
    exact hX
  | 12, _ =>
    have hxe : x = cr12 := (Option.some.inj hx).symm
    subst hxe
    obtain ⟨q, hq, rfl⟩ := dec_of 117 (by decide) (by decide) rfl (by decide)
    obtain ⟨X, hX⟩ := kv12 E H n i off C bx hb ho q (by omega)
    refine ⟨X, ?_⟩
    have hc : crCell cr12 (decS q) = .ref [.int .u64 (q : Int)] := by
      show SV.ref [.int .u64 (crNum (decS q) : Int)] = _
      rw [crNum_dec (by omega)]
    rw [hc]
    exact hX
  | 13, _ =>
    have hxe : x = cr13 := (Option.some.inj hx).symm
    subst hxe
    exact kv13 E H n i off C bx hb ho v
  | 14, _ =>
    have hxe : x = cr14 := (Option.some.inj hx).symm
    subst hxe
    exact kv14 E H n i off C bx hb ho v
  | 15, _ =>
    have hxe : x = cr15 := (Option.some.inj hx).symm
    subst hxe
    obtain ⟨q, hq, rfl⟩ := dec_of 105 (by decide) (by decide) rfl (by decide)
    obtain ⟨X, hX⟩ := kv15 E H n i off C bx hb ho q hq
    refine ⟨X, ?_⟩
    have hc : crCell cr15 (decS q) = .ref [.int .i64 (q : Int)] := by
      show SV.ref [.int .i64 (crNum (decS q) : Int)] = _
      rw [crNum_dec (by omega)]
    rw [hc]
    exact hX
  | 16, _ =>
    have hxe : x = cr16 := (Option.some.inj hx).symm
    subst hxe
    obtain ⟨q, hq, rfl⟩ := dec_of 105 (by decide) (by decide) rfl (by decide)
    obtain ⟨X, hX⟩ := kv16 E H n i off C bx hb ho q hq
    refine ⟨X, ?_⟩
    have hc : crCell cr16 (decS q) = .ref [.int .i64 (q : Int)] := by
      show SV.ref [.int .i64 (crNum (decS q) : Int)] = _
      rw [crNum_dec (by omega)]
    rw [hc]
    exact hX
  | 17, _ =>
    have hxe : x = cr17 := (Option.some.inj hx).symm
    subst hxe
    obtain ⟨q, hq, rfl⟩ := dec_of 117 (by decide) (by decide) rfl (by decide)
    obtain ⟨X, hX⟩ := kv17 E H n i off C bx hb ho q (by omega)
    refine ⟨X, ?_⟩
    have hc : crCell cr17 (decS q) = .ref [.int .u64 (q : Int)] := by
      show SV.ref [.int .u64 (crNum (decS q) : Int)] = _
      rw [crNum_dec (by omega)]
    rw [hc]
    exact hX
  | 18, _ =>
    have hxe : x = cr18 := (Option.some.inj hx).symm
    subst hxe
    exact kv18 E H n i off C bx hb ho v
  | 19, _ =>
    have hxe : x = cr19 := (Option.some.inj hx).symm
    subst hxe
    exact kv19 E H n i off C bx hb ho v
  | 20, _ =>
    have hxe : x = cr20 := (Option.some.inj hx).symm
    subst hxe
    obtain ⟨q, hq, rfl⟩ := dec_of 117 (by decide) (by decide) rfl (by decide)
    obtain ⟨X, hX⟩ := kv20 E H n i off C bx hb ho q (by omega)
    refine ⟨X, ?_⟩
    have hc : crCell cr20 (decS q) = .ref [.int .u64 (q : Int)] := by
      show SV.ref [.int .u64 (crNum (decS q) : Int)] = _
      rw [crNum_dec (by omega)]
    rw [hc]
    exact hX

/-! ### Lines -/

theorem crVal_word {k : UInt8} {v : List UInt8} (h : crVal k v = true) : v ≠ [] ∧ ∀ c ∈ v, wordC c = true ∧ c.toNat ≠ 58 := by
  unfold crVal at h
  split at h
  · rw [Bool.or_eq_true] at h
    rcases h with h | h
    · have : v = sYes := by simpa using h
      subst this
      decide
    · have : v = sNo := by simpa using h
      subst this
      decide
  · split at h
    · rw [Bool.and_eq_true] at h
      obtain ⟨h1, h2⟩ := h
      have h2 := of_decide_eq_true h2
      rw [whereI_neg] at h2
      unfold isWord at h1
      simp only [Bool.and_eq_true, List.all_eq_true, Bool.not_eq_true', beq_eq_false_iff_ne, ne_eq] at h1
      exact ⟨h1.2, fun c hc => ⟨h1.1 c hc, h2 c hc⟩⟩
    · split at h
      · rename_i n hn
        have := decV_dec hn
        subst this
        obtain ⟨_, g2, g3⟩ := decS_dig n
        refine ⟨g3, fun c hc => ?_⟩
        have := digC_iff.1 (g2 c hc)
        refine ⟨?_, by omega⟩
        unfold wordC
        simp only [Bool.and_eq_true, decide_eq_true_eq]
        omega
      · cases h

/-- What a field's name must be. -/
def labOk (f : List UInt8) : Bool := (f.all fun c => plainC c && (!(c.toNat == 10) && !(c.toNat == 58))) && (decide (f ≠ []) && (decide (f.length ≤ 13) && (!(spC (f.headD 32)) && !(spC (f.getLastD 32)))))

theorem crLab_ok : ∀ x ∈ crTab, labOk x.lab = true := by decide

theorem crLab_head : ∀ x ∈ crTab, x.lab ≠ sName → ((leftS x.lab 13).take 4 == sName) = false := by decide

theorem trim_lab {T : List SV → Option AV} (hT : S3193g T) {f : List UInt8} (h : labOk f = true) : T [.str (leftS f 13)] = some (.sv (.str f)) := by
  unfold labOk at h
  simp only [Bool.and_eq_true, List.all_eq_true, Bool.not_eq_true', decide_eq_true_eq, beq_eq_false_iff_ne, ne_eq] at h
  obtain ⟨h1, h2, h3, h4, h5⟩ := h
  have hp : ∀ c ∈ f, c.toNat < 128 := fun c hc => (plain13 (h1 c hc).1).1
  cases f with
  | nil => exact absurd rfl h2
  | cons a t =>
    have hl : (a :: t).getLast? = some ((a :: t).getLastD 32) := by
      rw [List.getLastD_eq_getLast?, List.getLast?_eq_some_getLast (by simp)]
      rfl
    have := hT [] (a :: t) (List.replicate (13 - (a :: t).length) 32) a ((a :: t).getLastD 32) (by
      rw [List.nil_append, List.length_append, List.length_replicate]; omega) (by simp) (fun c hc => by rw [List.eq_of_mem_replicate hc]; decide) rfl h4 (hp a (by simp)) hl h5 (hp _ (by
        have := List.mem_of_getLast? hl
        exact this))
    rw [List.nil_append] at this
    unfold leftS
    exact this

theorem trim_val {T : List SV → Option AV} (hT : S3193g T) {v : List UInt8} (hv : v ≠ []) (hw : ∀ c ∈ v, wordC c = true) (hl : v.length < 100000000) : T [.str (32 :: v)] = some (.sv (.str v)) := by
  cases v with
  | nil => exact absurd rfl hv
  | cons a t =>
    have hla : (a :: t).getLast? = some ((a :: t).getLast (by simp)) := List.getLast?_eq_some_getLast (by simp)
    have hm := List.mem_of_getLast? hla
    have := hT [32] (a :: t) [] a ((a :: t).getLast (by simp)) (by
      simp only [List.length_append, List.length_cons, List.length_nil] at hl ⊢; omega) (fun c hc => by rw [List.mem_singleton.1 hc]; decide) (by simp) rfl (wordC_sp (hw a (by simp))).1 (wordC_sp (hw a (by simp))).2.1 hla (wordC_sp (hw _ hm)).1 (wordC_sp (hw _ hm)).2.1
    rw [List.append_nil] at this
    exact this

theorem split_line {S : List SV → Option AV} (hS : S1157 S) {f v : List UInt8} (h : labOk f = true) (hw : ∀ c ∈ v, wordC c = true ∧ c.toNat ≠ 58) (hl : (crLine f v).length < 100000000) : S [.str (crLine f v), .str [58]] = some (.sv (.sl [.str (leftS f 13), .str (32 :: v)])) := by
  unfold labOk at h
  simp only [Bool.and_eq_true, List.all_eq_true, Bool.not_eq_true', decide_eq_true_eq, beq_eq_false_iff_ne, ne_eq] at h
  have := hS 58 (crLine f v) (by omega)
  rw [this]
  unfold crLine
  rw [partG_two (b := 58) (fun c hc => by
    rcases leftS_mem hc with hc | rfl
    · exact (h.1 c hc).2.2
    · decide) (fun c hc => by
    rcases List.mem_cons.1 hc with rfl | hc
    · decide
    · exact (hw c hc).2)]
  rfl

theorem line_chars {f v : List UInt8} (h : labOk f = true) (hw : ∀ c ∈ v, wordC c = true) : ∀ c ∈ crLine f v, c.toNat ≠ 10 ∧ c.toNat ≠ 13 := by
  unfold labOk at h
  simp only [Bool.and_eq_true, List.all_eq_true, Bool.not_eq_true', decide_eq_true_eq, beq_eq_false_iff_ne, ne_eq] at h
  intro c hc
  unfold crLine at hc
  rcases List.mem_append.1 hc with hc | hc
  · rcases leftS_mem hc with hc | rfl
    · exact ⟨(h.1 c hc).2.1, (plain13 (h.1 c hc).1).2⟩
    · decide
  · rcases List.mem_cons.1 hc with rfl | hc
    · decide
    · rcases List.mem_cons.1 hc with rfl | hc
      · decide
      · have := wordC_sp (hw c hc)
        exact ⟨this.2.2.1, this.2.2.2⟩

theorem pre_line (f v : List UInt8) : F130 [.str (crLine f v), .str [110, 97, 109, 101]] = some (.sv (.bool ((leftS f 13).take 4 == sName))) := by
  have hl : 13 ≤ (leftS f 13).length := by unfold leftS; rw [List.length_append, List.length_replicate]; omega
  have h1 : (crLine f v).take 4 = (leftS f 13).take 4 := by
    unfold crLine
    rw [List.take_append_of_le_length (by omega)]
  have h2 : 4 ≤ (crLine f v).length := by
    unfold crLine
    rw [List.length_append]
    omega
  show some (AV.sv (.bool (decide (4 ≤ (crLine f v).length) && ((crLine f v).take 4 == [110, 97, 109, 101])))) = _
  rw [decide_eq_true h2, h1, Bool.true_and]
  rfl

/-! ### One line of the door -/

def stA5100 (W : List Box) : SA := { nt := 65, tm := [(5, .ptr 0 0), (4, .sv .nilS)], lz := none, bx := W, df := [], mu := [112] }
def stB5100 (W : List Box) (b n : Nat) : SA := { nt := 65, tm := [(5, .ptr 0 0), (4, .grw b (n + 1) 21 112)], lz := none, bx := W, df := [], mu := [112] }

set_option maxRecDepth 100000 in
set_option maxHeartbeats 8000000 in
theorem name5100A (E : Env) (cf : CallF) (m : Nat) (hp88 : E.pure 75 = none) (hp90 : E.pure 77 = none) (hp29 : E.pure 129 = none) (h130 : E.pure 126 = some F130) (S T : List SV → Option AV) (pS : E.pure 127 = some S) (pT : E.pure 128 = some T) (W0 W W2 : List Box) (line p1 p2 f v : List UInt8)
    (hsc : cf 75 [.ptr 0 0] W0 = some (.sv (.bool true), W)) (htx : cf 77 [.ptr 0 0] W = some (.sv (.str line), W)) (eP : F130 [.str line, .str [110, 97, 109, 101]] = some (.sv (.bool true))) (eS : S [.str line, .str [58]] = some (.sv (.sl [.str p1, .str p2]))) (e1 : T [.str p1] = some (.sv (.str f))) (e2 : T [.str p2] = some (.sv (.str v)))
    (hkv : cf 129 [.ptr W.length 0, .sv (.str f), .sv (.str v)] (W ++ [.live (crZ.map .sv)]) = some (.sv .nilI, W2)) :
    evCA E cf m b5100_0 (stA5100 W0) = some (.normal, stB5100 W2 W.length 0) := by
  have w0 : IntKind.i64.wrap 0 = 0 := by decide
  unfold stA5100 stB5100
  unfold crZ at hkv
  simp only [List.map_cons, List.map_nil] at hkv
  simp [b5100_0, hp88, hp90, hp29, hsc, htx, h130, eP, pS, eS, pT, e1, e2, hkv, w0]

set_option maxRecDepth 100000 in
set_option maxHeartbeats 8000000 in
theorem name5100B (E : Env) (cf : CallF) (m : Nat) (hp88 : E.pure 75 = none) (hp90 : E.pure 77 = none) (hp29 : E.pure 129 = none) (h130 : E.pure 126 = some F130) (S T : List SV → Option AV) (pS : E.pure 127 = some S) (pT : E.pure 128 = some T) (W0 W W2 : List Box) (line p1 p2 f v : List UInt8)
    (hsc : cf 75 [.ptr 0 0] W0 = some (.sv (.bool true), W)) (htx : cf 77 [.ptr 0 0] W = some (.sv (.str line), W)) (eP : F130 [.str line, .str [110, 97, 109, 101]] = some (.sv (.bool true))) (eS : S [.str line, .str [58]] = some (.sv (.sl [.str p1, .str p2]))) (e1 : T [.str p1] = some (.sv (.str f))) (e2 : T [.str p2] = some (.sv (.str v)))
    (b n : Nat) (C : List Cell) (hb : W[b]? = some (.live C)) (hC : C.length = (n + 1) * 21) (hn : n < 1000000)
    (hkv : cf 129 [.ptr W.length ((n + 1) * 21), .sv (.str f), .sv (.str v)] (W.set b (.frz []) ++ [.live ((C.map Cell.plain ++ crZ).map .sv)]) = some (.sv .nilI, W2)) :
    evCA E cf m b5100_0 (stB5100 W0 b n) = some (.normal, stB5100 W2 W.length (n + 1)) := by
  have hbl : b < W.length := (List.getElem?_eq_some_iff.1 hb).1
  have hg : W[b]'hbl = .live C := (List.getElem?_eq_some_iff.1 hb).2
  have q1 : (n + 1 + 1) * 224 ≤ 140737488355328 := by omega
  have q2 : n + 1 + 1 ≤ 140737488355328 := by omega
  have z1 : binSV .eql (.int .i64 ((n : Int) + 1 + 1)) (.int .i64 0) = some (.bool false) := by
    simp only [binSV, if_true]
    rw [show (((n : Int) + 1 + 1) == 0) = false from by rw [Bool.eq_false_iff]; simp; omega]
  have z2 : binSV .sub (.int .i64 ((n : Int) + 1 + 1)) (.int .i64 1) = some (.int .i64 ((n : Int) + 1)) := by
    simp only [binSV, if_true]
    rw [show IntKind.i64.wrap ((n : Int) + 1 + 1 - 1) = (n : Int) + 1 from by rw [IntKind.wrap_i64]; omega]
  have z3 : (n : Int) + 1 < (n : Int) + 1 + 1 := by omega
  have z4 : (0 : Int) ≤ (n : Int) + 1 := by omega
  have z5 : ((n : Int) + 1).toNat = n + 1 := by omega
  have z6 : binSV .neq (.int .i64 2) (.int .i64 2) = some (.bool false) := rfl
  unfold stB5100
  unfold crZ at hkv
  simp at hkv
  simp [-binSV, b5100_0, hp88, hp90, hp29, hsc, htx, h130, eP, pS, eS, pT, e1, e2, hkv, hbl, hg, hC, q1, q2, z1, z2, z3, z4, z5, z6]

set_option maxRecDepth 100000 in
set_option maxHeartbeats 8000000 in
theorem pair5100 (E : Env) (cf : CallF) (m : Nat) (hp88 : E.pure 75 = none) (hp90 : E.pure 77 = none) (hp29 : E.pure 129 = none) (h130 : E.pure 126 = some F130) (S T : List SV → Option AV) (pS : E.pure 127 = some S) (pT : E.pure 128 = some T) (W0 W W2 : List Box) (line p1 p2 f v : List UInt8) (hne : line ≠ [])
    (hsc : cf 75 [.ptr 0 0] W0 = some (.sv (.bool true), W)) (htx : cf 77 [.ptr 0 0] W = some (.sv (.str line), W)) (eP : F130 [.str line, .str [110, 97, 109, 101]] = some (.sv (.bool false))) (eS : S [.str line, .str [58]] = some (.sv (.sl [.str p1, .str p2]))) (e1 : T [.str p1] = some (.sv (.str f))) (e2 : T [.str p2] = some (.sv (.str v)))
    (b n : Nat) (hn : n < 1000000)
    (hkv : cf 129 [.ptr b (n * 21), .sv (.str f), .sv (.str v)] W = some (.sv .nilI, W2)) :
    evCA E cf m b5100_0 (stB5100 W0 b n) = some (.normal, stB5100 W2 b n) := by
  have z1 : binSV .eql (.int .i64 ((n : Int) + 1)) (.int .i64 0) = some (.bool false) := by
    simp only [binSV, if_true]
    rw [show (((n : Int) + 1) == 0) = false from by rw [Bool.eq_false_iff]; simp; omega]
  have z2 : binSV .sub (.int .i64 ((n : Int) + 1)) (.int .i64 1) = some (.int .i64 (n : Int)) := by
    simp only [binSV, if_true]
    rw [show IntKind.i64.wrap ((n : Int) + 1 - 1) = (n : Int) from by rw [IntKind.wrap_i64]; omega]
  have z3 : (n : Int) < (n : Int) + 1 := by omega
  have z6 : binSV .neq (.int .i64 2) (.int .i64 2) = some (.bool false) := rfl
  have z7 := eqlS line []
  rw [show (line == []) = false from by simpa using hne] at z7
  unfold stB5100
  simp [-binSV, b5100_0, hp88, hp90, hp29, hsc, htx, h130, eP, pS, eS, pT, e1, e2, hkv, z1, z2, z3, z6, z7]

set_option maxHeartbeats 4000000 in
theorem empty5100 (E : Env) (cf : CallF) (m : Nat) (hp88 : E.pure 75 = none) (hp90 : E.pure 77 = none) (h130 : E.pure 126 = some F130) (W0 W : List Box) (hsc : cf 75 [.ptr 0 0] W0 = some (.sv (.bool true), W)) (htx : cf 77 [.ptr 0 0] W = some (.sv (.str []), W)) (b n : Nat) :
    evCA E cf m b5100_0 (stB5100 W0 b n) = some (.normal, stB5100 W b n) := by
  have eP : F130 [.str [], .str [110, 97, 109, 101]] = some (.sv (.bool false)) := rfl
  unfold stB5100
  simp [b5100_0, hp88, hp90, hsc, htx, h130, eP]

end Go.Ev
