/- Tables of sockets: addresses, the tree. -/
/- Tables of sockets: the tree. -/
import Derived.Test.YtnpkdihdpgfemaaGreatDoorKD
import Derived.Test.YtnpkdihdpgfemaaGreatDoorNA
set_option linter.unusedSimpArgs false
set_option linter.unusedVariables false
namespace Go.Ev
open Go.Proofs

def S1114 (F : List SV → Option AV) : Prop := ∀ nm : List UInt8, F [.str nm] = some (.sv (nodeV nm 0 false 0 0 0 [] []))

theorem ev1114 (E : Env) (h : E.code 114 = some c1114) : S1114 (autoF E 114) := by
  intro nm
  refine autoF_sv (n := 1) ?_ rfl
  unfold evP
  simp only [h]
  simp [c1114, List.replicate, nodeV]

def S35 (F : List SV → Option AV) : Prop := ∀ (nm : List UInt8) (u : Int), F [.str nm, .int .u64 u] = some (.sv (nodeV nm 3 false 0 u 0 [] []))

theorem ev35 (E : Env) (h : E.code 115 = some c35) : S35 (autoF E 115) := by
  intro nm u
  refine autoF_sv (n := 1) ?_ rfl
  unfold evP
  simp only [h]
  simp [c35, List.replicate, nodeV]

def S1116 (F : List SV → Option AV) : Prop := ∀ s : List UInt8, addrF s → F [.str s] = some (.sv (.str (addrV s)))

def st1116 (s : List UInt8) (acc : List SV) (i : Nat) (q : Int) : SA := { nt := 37, tm := [(5, .sv (.int .i64 q)), (4, .sv (.int .i64 i)), (3, accA 5 acc), (0, .sv (.str s))], lz := none, bx := [], df := [] }

def st1116' (s : List UInt8) (acc : List SV) (i : Nat) : SA := { nt := 37, tm := [(4, .sv (.int .i64 i)), (3, accA 5 acc), (0, .sv (.str s))], lz := none, bx := [], df := [] }

theorem round1116 (E : Env) (cf : CallF) (m : Nat) (h134 : E.pure 111 = some F134) (s : List UInt8) (hs : s.length < 1000000) (acc : List SV) (ha : acc.length < 1000000) (i j : Nat) (q : Int) (h0 : 0 ≤ q) (h6 : q ≤ 6) (hj : (i : Int) + q = (j : Int)) (x y : UInt8) (hjl : j + 1 < s.length) (hx : s[j]? = some x) (hy : s[j + 1]? = some y) (dx : digitV x.toNat < 16) (dy : digitV y.toNat < 16) :
    evCA E cf m b1116_0 (st1116 s acc i q) = some (.normal, st1116 s (acc ++ [.int .u8 ((byV x y).toNat : Int)]) i (q - 2)) := by
  have hj1 : j < s.length := by omega
  have hgx : ∀ h : j < s.length, s[j]'h = x := fun h => (List.getElem?_eq_some_iff.1 hx).2
  have hgy : ∀ h : j + 1 < s.length, s[j + 1]'h = y := fun h => (List.getElem?_eq_some_iff.1 hy).2
  have hw0 : IntKind.i64.wrap ((i : Int) + q) = (j : Int) := by rw [IntKind.wrap_i64]; omega
  have hw1 : IntKind.i64.wrap ((j : Int) + 1) = ((j + 1 : Nat) : Int) := by rw [IntKind.wrap_i64]; omega
  obtain ⟨q2, hq2⟩ : ∃ z, z = q - 2 := ⟨_, rfl⟩
  have hw2 : IntKind.i64.wrap (q - 2) = q2 := by rw [IntKind.wrap_i64, hq2]; omega
  have bx : (x.toNat : Int) < 256 := by have := x.toNat_lt; omega
  have by' : (y.toNat : Int) < 256 := by have := y.toNat_lt; omega
  have hm : IntKind.u64.wrap ((digitV x.toNat : Int) * 16) = ((digitV x.toNat * 16 : Nat) : Int) := by rw [IntKind.wrap_u64]; omega
  have hby := byV_toNat dx dy
  have hm2 : IntKind.u64.wrap (((digitV x.toNat * 16 : Nat) : Int) + (digitV y.toNat : Int)) = ((byV x y).toNat : Int) := by rw [IntKind.wrap_u64, hby]; omega
  have hm3 : IntKind.u8.wrap ((byV x y).toNat : Int) = ((byV x y).toNat : Int) := by rw [IntKind.wrap_u8, hby]; omega
  have hl2 : acc.length + 1 ≤ 140737488355328 := by omega
  generalize hj2 : ((j + 1 : Nat) : Int) = j2 at *
  have hj0 : 0 ≤ j2 := by omega
  have hjt : j2.toNat = j + 1 := by omega
  have hjl2 : j2 < (s.length : Int) := by omega
  generalize ((digitV x.toNat * 16 : Nat) : Int) = z at *
  rw [← hq2]
  cases acc with
  | nil => simp [st1116, b1116_0, h0, hw0, hw1, hw2, hj1, hjl, hgx, hgy, h134, F134, bx, by', hm, hm2, hm3, hj0, hjt, hjl2, accA]
  | cons a as =>
    simp only [List.length_cons] at hl2
    simp [st1116, b1116_0, h0, hw0, hw1, hw2, hj1, hjl, hgx, hgy, h134, F134, bx, by', hm, hm2, hm3, hj0, hjt, hjl2, accA, hl2]

theorem outer1116 (E : Env) (cf : CallF) (m : Nat) (hm : 5 < m) (h134 : E.pure 111 = some F134) (s : List UInt8) (hs : s.length < 1000000) (acc : List SV) (ha : acc.length < 900000) (i : Nat) (a b c d e f g h : UInt8) (rest pre : List UInt8) (hsp : s = pre ++ a :: b :: c :: d :: e :: f :: g :: h :: rest) (hi : i = pre.length) (hd : ∀ x ∈ s, digitV x.toNat < 16) :
    evCA E cf m b1116_1 (st1116' s acc i) = some (.normal, st1116' s (acc ++ bytesSV [byV g h, byV e f, byV c d, byV a b]) (i + 8)) := by
  obtain ⟨k, rfl⟩ : ∃ k, m = k + 1 + 1 + 1 + 1 + 1 := ⟨m - 5, by omega⟩
  have hl : s.length = i + 8 + rest.length := by rw [hsp, hi]; simp; omega
  have hg : ∀ n x, (a :: b :: c :: d :: e :: f :: g :: h :: rest)[n]? = some x → s[i + n]? = some x := fun n x hx => by
    rw [hsp, List.getElem?_append_right (by omega), hi, Nat.add_sub_cancel_left]; exact hx
  have hin : ∀ x ∈ [a, b, c, d, e, f, g, h], digitV x.toNat < 16 := fun x hx => hd x (by
    rw [hsp]
    simp only [List.mem_cons, List.not_mem_nil, or_false] at hx
    simp only [List.mem_append, List.mem_cons]
    right
    rcases hx with h | h | h | h | h | h | h | h <;> simp [h])
  generalize hM : k + 1 + 1 + 1 + 1 + 1 = M at *
  have q1 := round1116 E cf M h134 s hs acc (by omega) i (i + 6) 6 (by omega) (by omega) (by omega) g h (by omega) (hg 6 g rfl) (hg 7 h rfl) (hin g (by simp)) (hin h (by simp))
  have q2 := round1116 E cf M h134 s hs (acc ++ [.int .u8 ((byV g h).toNat : Int)]) (by simp; omega) i (i + 4) 4 (by omega) (by omega) (by omega) e f (by omega) (hg 4 e rfl) (hg 5 f rfl) (hin e (by simp)) (hin f (by simp))
  have q3 := round1116 E cf M h134 s hs (acc ++ [.int .u8 ((byV g h).toNat : Int)] ++ [.int .u8 ((byV e f).toNat : Int)]) (by simp; omega) i (i + 2) 2 (by omega) (by omega) (by omega) c d (by omega) (hg 2 c rfl) (hg 3 d rfl) (hin c (by simp)) (hin d (by simp))
  have q4 := round1116 E cf M h134 s hs (acc ++ [.int .u8 ((byV g h).toNat : Int)] ++ [.int .u8 ((byV e f).toNat : Int)] ++ [.int .u8 ((byV c d).toNat : Int)]) (by simp; omega) i i 0 (by omega) (by omega) (by omega) a b (by omega) (hg 0 a rfl) (hg 1 b rfl) (hin a (by simp)) (hin b (by simp))
  have q5 : ∀ acc2, evCA E cf M b1116_0 (st1116 s acc2 i (-2)) = some (.exit 2, st1116' s acc2 i) := fun acc2 => by
    simp [st1116, st1116', b1116_0]
  have hr : roundsA (evCA E cf M b1116_0) M (st1116 s acc i 6) = some (.exit 2, st1116' s (acc ++ bytesSV [byV g h, byV e f, byV c d, byV a b]) i) := by
    rw [show roundsA (evCA E cf M b1116_0) M = roundsA (evCA E cf M b1116_0) (k + 1 + 1 + 1 + 1 + 1) from by rw [hM]]
    rw [roundsA_step q1, show (6 : Int) - 2 = 4 from rfl, roundsA_step q2, show (4 : Int) - 2 = 2 from rfl, roundsA_step q3, show (2 : Int) - 2 = 0 from rfl, roundsA_step q4, show (0 : Int) - 2 = -2 from rfl, roundsA_out (q5 _) (by simp)]
    simp [bytesSV]
  generalize acc ++ bytesSV [byV g h, byV e f, byV c d, byV a b] = acc2 at hr ⊢
  have hlt : i < s.length := by omega
  have hw : IntKind.i64.wrap ((i : Int) + 8) = ((i + 8 : Nat) : Int) := by rw [IntKind.wrap_i64]; omega
  simp only [st1116, st1116'] at hr
  cases acc with
  | nil =>
    cases acc2 with
    | nil => simp only [accA] at hr; simp [st1116', b1116_1, hlt, hr, hw, accA]
    | cons z zs => simp only [accA] at hr; simp [st1116', b1116_1, hlt, hr, hw, accA]
  | cons y ys =>
    cases acc2 with
    | nil => simp only [accA] at hr; simp [st1116', b1116_1, hlt, hr, hw, accA]
    | cons z zs => simp only [accA] at hr; simp [st1116', b1116_1, hlt, hr, hw, accA]

theorem loop1116_1 (E : Env) (cf : CallF) (m : Nat) (hm : 5 < m) (h134 : E.pure 111 = some F134) (s : List UInt8) (hs : s.length < 10000) (hd : ∀ x ∈ s, digitV x.toNat < 16) :
    ∀ (q : Nat) (rest pre : List UInt8) (acc : List SV) (i k : Nat), s = pre ++ rest → i = pre.length → rest.length = 8 * q → acc.length ≤ i → q < k →
      roundsA (evCA E cf m b1116_1) k (st1116' s acc i) = some (.exit 0, { nt := 37, tm := [(3, accA 5 (acc ++ bytesSV (addrV rest)))], lz := none, bx := [], df := [] }) := by
  intro q
  induction q with
  | zero =>
    intro rest pre acc i k hsp hi hr ha hk
    obtain ⟨k, rfl⟩ : ∃ k', k = k' + 1 := ⟨k - 1, by omega⟩
    have : rest = [] := List.eq_nil_of_length_eq_zero (by omega)
    subst this
    have hl : s.length = i := by rw [hsp, hi]; simp
    have hlt : ¬ (i < s.length) := by omega
    refine roundsA_out ?_ (by simp)
    simp [st1116', b1116_1, hlt, addrV, bytesSV]
  | succ q ih =>
    intro rest pre acc i k hsp hi hr ha hk
    obtain ⟨k, rfl⟩ : ∃ k', k = k' + 1 := ⟨k - 1, by omega⟩
    obtain ⟨a, b, c, d, e, f, g, h, r, rfl⟩ : ∃ a b c d e f g h r, rest = a :: b :: c :: d :: e :: f :: g :: h :: r := by
      match rest, hr with
      | a :: b :: c :: d :: e :: f :: g :: h :: r, _ => exact ⟨a, b, c, d, e, f, g, h, r, rfl⟩
    have hl : s.length = i + 8 + r.length := by rw [hsp, hi]; simp; omega
    simp only [List.length_cons] at hr
    rw [roundsA_step (outer1116 E cf m hm h134 s (by omega) acc (by omega) i a b c d e f g h r pre hsp hi hd)]
    have he := ih r (pre ++ [a, b, c, d, e, f, g, h]) (acc ++ bytesSV [byV g h, byV e f, byV c d, byV a b]) (i + 8) k (by rw [hsp]; simp) (by simp [hi]) (by omega) (by simp [bytesSV]; omega) (by omega)
    rw [he]
    simp only [addrV]
    rw [show acc ++ bytesSV (byV g h :: byV e f :: byV c d :: byV a b :: addrV r) = acc ++ bytesSV [byV g h, byV e f, byV c d, byV a b] ++ bytesSV (addrV r) from by simp [bytesSV]]

theorem ev1116 (E : Env) (h : E.code 116 = some c1116) (h134 : E.pure 111 = some F134) : S1116 (autoF E 116) := by
  rintro s ⟨hl, hd⟩
  have hs : s.length < 10000 := by rcases hl with hl | hl <;> omega
  obtain ⟨q, hq⟩ : ∃ q, s.length = 8 * q ∧ q < 6 := by rcases hl with hl | hl; exact ⟨1, by omega⟩; exact ⟨4, by omega⟩
  have he := loop1116_1 E (evF E 8) 8 (by omega) h134 s hs hd q s [] [] 0 8 rfl rfl hq.1 (by simp) (by omega)
  refine autoA_sv (n := 8) ?_ rfl
  unfold evPA
  simp only [h]
  have hsv := svBytes_map (addrV s)
  rw [List.nil_append] at he
  generalize addrV s = t at he hsv ⊢
  simp only [st1116', List.cons_append, List.nil_append, Int.ofNat_zero, Int.natCast_zero, accA] at he
  cases t with
  | nil => simp only [bytesSV, List.map_nil, accA] at he; simp [c1116, he, svBytes]
  | cons y ys =>
    simp only [bytesSV, List.map_cons, accA] at he hsv
    simp [c1116, he, hsv]

end Go.Ev

set_option linter.unusedSimpArgs false
set_option linter.unusedVariables false
namespace Go.Ev
open Go.Proofs

theorem box2_get0 (B : List Box) (x y : Box) : (B ++ [x, y])[B.length]? = some x := by simp
theorem box2_get1 (B : List Box) (x y : Box) : (B ++ [x, y])[B.length + 1]? = some y := by
  rw [List.getElem?_append_right (by omega)]; simp
theorem box2_set (B : List Box) (x y z : Box) : (B ++ [x, y]).set (B.length + 1) z = B ++ [x, z] := by
  rw [List.set_append_right _ _ (by omega)]; simp

def S1070 (F : List SV → Option AV) : Prop := ∀ (d : Bool) (l : List RowD), rowsFit3 l → (∀ r ∈ l, skOk d r = true) → F [.sl (rowsSV l), .bool d] = some (.sv (skTree d l))

def st1070 (d : Bool) (xs acc : List SV) (i : Nat) (z : Box) (bx : List Box) : SA := { nt := 83, tm := [(11, .sv (.int .i64 i)), (10, .sv (.int .i64 xs.length)), (9, .sv (.sl xs)), (5, accA 43 acc), (4, .ptr 0 0), (1, .sv (.bool d))], lz := none, bx := z :: bx, df := [] }

set_option maxHeartbeats 40000000 in
theorem step1070 (E : Env) (cf : CallF) (m : Nat) (h33 : E.pure 43 = some F33) (h14 : Has E 114 S1114) (h35 : Has E 115 S35) (h16 : Has E 116 S1116) (d : Bool) (xs acc : List SV) (ha : acc.length < 1000000000) (r : RowD) (n0 n1 n2 n3 n4 n5 n6 n7 n8 : Nat) (a b : List UInt8) (hs : SkR d r n0 n1 n2 n3 n4 n5 n6 n7 n8 a b) (i : Nat) (hlt : i < xs.length) (hxl : xs.length < 1000000000)
    (hc : ∀ h : i < xs.length, xs[i]'h = .agg [.str [], .sl [.int .u64 (n0 : Int), .int .u64 (n1 : Int), .int .u64 (n2 : Int), .int .u64 (n3 : Int), .int .u64 (n4 : Int), .int .u64 (n5 : Int), .int .u64 (n6 : Int), .int .u64 (n7 : Int), .int .u64 (n8 : Int)], .sl [.str a, .str b]]) (z : Box) (bx : List Box) :
    ∃ bx', evCA E cf m b1070_0 (st1070 d xs acc i z bx) = some (.normal, st1070 d xs (acc ++ [skNode d r]) (i + 1) z bx') := by
  obtain ⟨FN, hpN, hN⟩ := h14
  obtain ⟨FU, hpU, hU⟩ := h35
  obtain ⟨FA, hpA, hA⟩ := h16
  obtain ⟨fa, fb⟩ := addrOk_F hs
  have ga := hA a fa
  have gb := hA b fb
  have hw : IntKind.i64.wrap ((i : Int) + 1) = ((i + 1 : Nat) : Int) := by rw [IntKind.wrap_i64]; omega
  have hl1 : (acc.length + 1) * 96 ≤ 140737488355328 := by omega
  have hl2 : acc.length + 1 ≤ 140737488355328 := by omega
  have hnode : skNode d r = nodeV [] 8 false 0 0 0 [] [nodeV [83, 108] 3 false 0 (n0 : Int) 0 [] [], nodeV [76, 111, 99, 97, 108, 65, 100, 100, 114] 9 false 0 0 0 (addrV a) [], nodeV [76, 111, 99, 97, 108, 80, 111, 114, 116] 3 false 0 (n1 : Int) 0 [] [], nodeV [82, 101, 109, 65, 100, 100, 114] 9 false 0 0 0 (addrV b) [], nodeV [82, 101, 109, 80, 111, 114, 116] 3 false 0 (n2 : Int) 0 [] [], nodeV [83, 116] 3 false 0 (n3 : Int) 0 [] [], nodeV [84, 120, 81, 117, 101, 117, 101] 3 false 0 (n4 : Int) 0 [] [], nodeV [82, 120, 81, 117, 101, 117, 101] 3 false 0 (n5 : Int) 0 [] [], nodeV [85, 73, 68] 3 false 0 (n6 : Int) 0 [] [], nodeV [73, 110, 111, 100, 101] 3 false 0 (n7 : Int) 0 [] [], if d then nodeV [68, 114, 111, 112, 115] 3 false 0 (n8 : Int) 0 [] [] else nodeV [68, 114, 111, 112, 115] 0 false 0 0 0 [] []] := by
    unfold skNode
    simp only [hs.hN, hs.hS]
  rw [hnode]
  generalize addrV a = va at *
  generalize addrV b = vb at *
  have hU' : ∀ (nm : List UInt8) (u : Int), FU [.str nm, .int .u64 u] = some (.sv (.agg [.str nm, .int .i64 3, .bool false, .int .i64 0, .int .u64 u, .flt .f64 0, .str [], .sl []])) := hU
  have hN' : ∀ nm : List UInt8, FN [.str nm] = some (.sv (.agg [.str nm, .int .i64 0, .bool false, .int .i64 0, .int .u64 0, .flt .f64 0, .str [], .sl []])) := hN
  clear hU hN hnode
  cases d with
  | true =>
    refine ⟨bx ++ [rowBox r, nodeBox [68, 114, 111, 112, 115] 3 false 0 (n8 : Int) 0 [] (.sv (.sl []))], ?_⟩
    rw [skRow_eq hs]
    cases acc with
    | nil => simp [st1070, b1070_0, hlt, hc, hpN, hN', hpU, hU', hpA, ga, gb, h33, F33, nodeV, box2_get0, box2_get1, box2_set, hw, accA, rowBox, nodeBox, u64s, strs]
    | cons y ys =>
      simp only [List.length_cons] at hl1 hl2
      simp [st1070, b1070_0, hlt, hc, hpN, hN', hpU, hU', hpA, ga, gb, h33, F33, nodeV, box2_get0, box2_get1, box2_set, hw, accA, hl1, hl2, rowBox, nodeBox, u64s, strs]
  | false =>
    refine ⟨bx ++ [rowBox r, nodeBox [68, 114, 111, 112, 115] 0 false 0 0 0 [] (.sv (.sl []))], ?_⟩
    rw [skRow_eq hs]
    cases acc with
    | nil => simp [st1070, b1070_0, hlt, hc, hpN, hN', hpU, hU', hpA, ga, gb, h33, F33, nodeV, box2_get0, box2_get1, box2_set, hw, accA, rowBox, nodeBox, u64s, strs]
    | cons y ys =>
      simp only [List.length_cons] at hl1 hl2
      simp [st1070, b1070_0, hlt, hc, hpN, hN', hpU, hU', hpA, ga, gb, h33, F33, nodeV, box2_get0, box2_get1, box2_set, hw, accA, hl1, hl2, rowBox, nodeBox, u64s, strs]

theorem loop1070 (E : Env) (cf : CallF) (m : Nat) (h33 : E.pure 43 = some F33) (h14 : Has E 114 S1114) (h35 : Has E 115 S35) (h16 : Has E 116 S1116) (d : Bool) (xs : List SV) (hxl : xs.length < 100000000) (z : Box) :
    ∀ (rest : List RowD) (pre acc : List SV) (i : Nat) (bx : List Box) (k : Nat), xs = pre ++ rowsSV rest → i = pre.length → acc.length = i → (∀ r ∈ rest, skOk d r = true) → rest.length < k →
      ∃ bx', roundsA (evCA E cf m b1070_0) k (st1070 d xs acc i z bx) = some (.exit 0, { nt := 83, tm := [(5, accA 43 (acc ++ rest.map (skNode d))), (4, .ptr 0 0)], lz := none, bx := z :: bx', df := [] }) := by
  intro rest
  induction rest with
  | nil =>
    intro pre acc i bx k hsp hi ha _ hk
    obtain ⟨k, rfl⟩ : ∃ k', k = k' + 1 := ⟨k - 1, by omega⟩
    have hlt : ¬ (i < xs.length) := by rw [hsp, hi]; simp [rowsSV]
    refine ⟨bx, roundsA_out ?_ (by simp)⟩
    simp [st1070, b1070_0, hlt]
  | cons r rest ih =>
    intro pre acc i bx k hsp hi ha hr hk
    obtain ⟨k, rfl⟩ : ∃ k', k = k' + 1 := ⟨k - 1, by omega⟩
    have hlt : i < xs.length := by rw [hsp, hi]; simp [rowsSV]
    obtain ⟨n0, n1, n2, n3, n4, n5, n6, n7, n8, a, b, hs⟩ := skOk_spec (hr r (by simp))
    have hreq := skRow_eq hs
    have hc : ∀ h : i < xs.length, xs[i]'h = .agg [.str [], .sl [.int .u64 (n0 : Int), .int .u64 (n1 : Int), .int .u64 (n2 : Int), .int .u64 (n3 : Int), .int .u64 (n4 : Int), .int .u64 (n5 : Int), .int .u64 (n6 : Int), .int .u64 (n7 : Int), .int .u64 (n8 : Int)], .sl [.str a, .str b]] := by subst hi; subst hsp; simp [rowsSV, RowD.sv, hreq, u64s, strs]
    obtain ⟨bx1, hst⟩ := step1070 E cf m h33 h14 h35 h16 d xs acc (by omega) r n0 n1 n2 n3 n4 n5 n6 n7 n8 a b hs i hlt (by omega) hc z bx
    obtain ⟨bx', he⟩ := ih (pre ++ [r.sv]) (acc ++ [skNode d r]) (i + 1) bx1 k (by rw [hsp]; simp [rowsSV]) (by simp [hi]) (by simp [ha]) (fun q hq => hr q (by simp [hq])) (by simp at hk; omega)
    refine ⟨bx', ?_⟩
    rw [roundsA_step hst, he]
    simp

theorem ev1070 (E : Env) (h : E.code 70 = some c1070) (h33 : E.pure 43 = some F33) (h36 : E.pure 59 = some F36) (h14 : Has E 114 S1114) (h35 : Has E 115 S35) (h16 : Has E 116 S1116) : S1070 (autoF E 70) := by
  intro d l hf hok
  have hlen : (rowsSV l).length = l.length := by simp [rowsSV]
  obtain ⟨bx', he⟩ := loop1070 E (evF E (l.length + 1)) (l.length + 1) h33 h14 h35 h16 d (rowsSV l) (by rw [hlen]; exact hf.1) (.live [.sv (.str []), .sv (.int .i64 0), .sv (.bool false), .sv (.int .i64 0), .sv (.int .u64 0), .sv (.flt .f64 0), .sv (.str []), .sv .nilS]) l [] [] 0 [] (l.length + 1) rfl rfl rfl hok (by omega)
  refine autoA_sv (n := l.length + 1) ?_ rfl
  unfold evPA
  simp only [h]
  rw [List.nil_append] at he
  unfold skTree
  simp only [st1070, accA, Int.ofNat_zero, Int.natCast_zero] at he
  generalize l.map (skNode d) = ks at he ⊢
  cases ks with
  | nil => simp only [accA] at he; simp [c1070, he, h36, F36, nodeV]
  | cons y ys => simp only [accA] at he; simp [c1070, he, h36, F36, nodeV]


end Go.Ev
