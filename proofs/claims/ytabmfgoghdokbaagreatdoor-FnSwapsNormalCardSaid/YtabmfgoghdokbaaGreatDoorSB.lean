/- What is written of rows of swaps. -/
/- What is written of rows of swaps, whole; texts alike but for blanks. -/
/- The reading of swaps. -/
/- The reading of swaps: meant, where blanks do not count. -/
import Derived.Test.YtabmfgoghdokbaaGreatDoorSA
set_option linter.unusedSimpArgs false
set_option linter.unusedVariables false
namespace Go.Ev
open Go.Proofs

/-- What the form can say of one row of swaps. -/
def swOk (r : RowD) : Bool := match r.N, r.S with
  | [a, b, _], [s] => isWord r.name && isWord s && (decide (a < 4611686018427387904) && decide (b < 4611686018427387904))
  | _, _ => false

def i64 (n : Nat) : Int := IntKind.i64.wrap (n : Int)

theorem i64_range (n : Nat) : -9223372036854775808 ≤ i64 n ∧ i64 n < 9223372036854775808 := by unfold i64; rw [IntKind.wrap_i64]; omega

def swLine (r : RowD) : List UInt8 := match r.N, r.S with
  | [a, b, c], [s] => leftS r.name 39 ++ [32] ++ leftS s 15 ++ [32] ++ decS a ++ [9] ++ decS b ++ [9] ++ sdecS (i64 c) ++ [10]
  | _, _ => []

def swHead : List UInt8 := [70, 105, 108, 101, 110, 97, 109, 101, 9, 9, 9, 9, 84, 121, 112, 101, 9, 9, 83, 105, 122, 101, 9, 85, 115, 101, 100, 9, 80, 114, 105, 111, 114, 105, 116, 121, 10]

theorem swOk_spec {r : RowD} (h : swOk r = true) : ∃ a b c s, r.N = [a, b, c] ∧ r.S = [s] ∧ isWord r.name = true ∧ isWord s = true ∧ a < 4611686018427387904 ∧ b < 4611686018427387904 := by
  obtain ⟨name, N, S⟩ := r
  unfold swOk at h
  split at h
  · rename_i a b c s hN hS
    simp only [Bool.and_eq_true, decide_eq_true_eq] at h
    exact ⟨a, b, c, s, hN, hS, h.1.1, h.1.2, h.2.1, h.2.2⟩
  · cases h

set_option maxHeartbeats 4000000 in
theorem step19 (E : Env) (cf : CallF) (h44 : E.pure 44 = some F44) (h45 : E.pure 45 = some F45) (h54 : E.pure 54 = some F54) (h55 : E.pure 55 = some F55) (h56 : E.pure 56 = some F56) (h57 : E.pure 57 = some F57) (h58 : E.pure 58 = some F58) (xs : List SV) (m k : Nat) (r : RowD) (i : Nat) (bx : List Box) (acc : List UInt8)
    (hi : i < xs.length) (hc : ∀ h : i < xs.length, xs[i]'h = r.sv) (hnl : r.name.length < 1000000000) (hN : ∀ n ∈ r.N, n < 18446744073709551616) (hNl : r.N.length < 100000000000) (hSl : r.S.length < 1000000000) (hS : ∀ s ∈ r.S, s.length < 1000000000) (hacc : acc.length < 2305843009213693952) (hxs : xs.length < 1000000000000) :
    rounds (evC E cf m b19_0) (k + 1) { tm := List.replicate 4 (.sv .undef) ++ [.sv (.str acc), .sv .undef, .sv .undef, .sv (.sl xs), .sv (.int .i64 xs.length), .sv (.int .i64 i)] ++ List.replicate 68 (.sv .undef), lz := none, bx := bx, df := [] } =
      if swOk r = true then rounds (evC E cf m b19_0) k { tm := List.replicate 4 (.sv .undef) ++ [.sv (.str (acc ++ swLine r)), .sv .undef, .sv .undef, .sv (.sl xs), .sv (.int .i64 xs.length), .sv (.int .i64 (i + 1 : Nat))] ++ List.replicate 68 (.sv .undef), lz := none, bx := bx ++ [rowBox r], df := [] }
      else some (.ret, { tm := [.sv .undef, .sv .undef, .sv (.str []), .sv (.int .i64 2)] ++ List.replicate 74 (.sv .undef), lz := none, bx := bx ++ [rowBox r], df := [] }) := by
  obtain ⟨name, N, S⟩ := r
  simp only [RowD.sv, rowBox] at *
  have hw2 : IntKind.i64.wrap ((i : Int) + 1) = ((i + 1 : Nat) : Int) := by rw [IntKind.wrap_i64]; omega
  have hF54 : F54 [.str name] = some (.sv (.bool (isWord name))) := F54_eq name (by omega)
  have hF55 : F55 [.agg [.str name, .sl (u64s N), .sl (strs S)], .int .i64 3, .int .i64 1] = some (.sv (.bool (decide (N.length = 3) && decide (S.length = 1)))) := by
    have := F55_eq name (u64s N) (strs S) 3 1
    simp only [u64s_length, strs_length] at this
    exact this
  have hF56 := F56_eq S (by omega) (fun s hs => by have := hS s hs; omega)
  cases h1 : isWord name with
  | false =>
    rw [h1] at hF54
    have hok : swOk ⟨name, N, S⟩ = false := by unfold swOk; split <;> simp_all
    simp only [hok, Bool.false_eq_true, if_false]
    refine rounds_out ?_ (by simp)
    simp [b19_0, List.replicate, hi, hc, h54, hF54]
  | true =>
    rw [h1] at hF54
    cases h2 : (decide (N.length = 3) && decide (S.length = 1)) with
    | false =>
      rw [h2] at hF55
      have hok : swOk ⟨name, N, S⟩ = false := by
        unfold swOk; split
        · rename_i hN' hS'; simp only at hN' hS'; rw [hN', hS'] at h2; simp at h2
        · rfl
      simp only [hok, Bool.false_eq_true, if_false]
      refine rounds_out ?_ (by simp)
      simp [b19_0, List.replicate, hi, hc, h54, hF54, h55, hF55]
    | true =>
      rw [h2] at hF55
      simp only [Bool.and_eq_true, decide_eq_true_eq] at h2
      obtain ⟨h2a, h2b⟩ := h2
      match N, h2a, S, h2b with
      | [a, b, c], _, [s], _ =>
        cases h3 : isWord s with
        | false =>
          simp only [List.all_cons, List.all_nil, Bool.and_true, h3] at hF56
          have hok : swOk ⟨name, [a, b, c], [s]⟩ = false := by simp [swOk, h3]
          simp only [hok, Bool.false_eq_true, if_false]
          refine rounds_out ?_ (by simp)
          simp [b19_0, List.replicate, hi, hc, h54, hF54, h55, hF55, h56, hF56]
        | true =>
          simp only [List.all_cons, List.all_nil, Bool.and_true, h3] at hF56
          have hF57 : F57 [.int .u64 4611686018427387904, .sl (u64s [a, b])] = some (.sv (.bool ([a, b].all (fun n => decide (n < 4611686018427387904))))) := F57_eq 4611686018427387904 [a, b] (by simp)
          simp only [List.all_cons, List.all_nil, Bool.and_true] at hF57
          cases h4 : (decide (a < 4611686018427387904) && decide (b < 4611686018427387904)) with
          | false =>
            rw [h4] at hF57
            have hok : swOk ⟨name, [a, b, c], [s]⟩ = false := by simp only [swOk, h4, Bool.and_false]
            simp only [hok, Bool.false_eq_true, if_false]
            refine rounds_out ?_ (by simp)
            simp only [u64s, List.map_cons, List.map_nil] at hF57 hF55 hc ⊢
            simp only [strs, List.map_cons, List.map_nil] at hF56 hF55 hc ⊢
            simp [b19_0, List.replicate, hi, hc, h54, hF54, h55, hF55, h56, hF56, h57, hF57]
          | true =>
            rw [h4] at hF57
            have hok : swOk ⟨name, [a, b, c], [s]⟩ = true := by simp only [swOk, h4, h1, h3]; rfl
            simp only [hok, if_true]
            refine rounds_step ?_
            have hsl := hS s (by simp)
            have k1 : F44 [.str name, .int .i64 39] = some (.sv (.str (leftS name 39))) := F44_eq name 39 (by omega) (by omega)
            have k2 : F44 [.str s, .int .i64 15] = some (.sv (.str (leftS s 15))) := F44_eq s 15 (by omega) (by omega)
            have k3 := F45_eq a (hN a (by simp))
            have k4 := F45_eq b (hN b (by simp))
            obtain ⟨r1, r2⟩ := i64_range c
            have k5 : F58 [.int .i64 (i64 c)] = some (.sv (.str (sdecS (i64 c)))) := onlyIf_pos ⟨r1, r2⟩
            have hwc : IntKind.i64.wrap (c : Int) = i64 c := rfl
            have l1 := leftS_len name 39
            have l2 := leftS_len s 15
            have l3 := decS_len20 (hN a (by simp))
            have l4 := decS_len20 (hN b (by simp))
            have l5 := sdecS_len r1 r2
            have hline : swLine ⟨name, [a, b, c], [s]⟩ = leftS name 39 ++ [32] ++ leftS s 15 ++ [32] ++ decS a ++ [9] ++ decS b ++ [9] ++ sdecS (i64 c) ++ [10] := rfl
            rw [hline]
            simp only [u64s, List.map_cons, List.map_nil] at hF57 hF55 hc ⊢
            simp only [strs, List.map_cons, List.map_nil] at hF56 hF55 hc ⊢
            generalize leftS name 39 = A at *
            generalize leftS s 15 = B at *
            generalize decS a = C at *
            generalize decS b = D at *
            generalize sdecS (i64 c) = G at *
            generalize i64 c = ic at *
            have p0 : A.length + 1 < 4611686018427387904 := by omega
            have p1 : A.length + 1 + B.length < 4611686018427387904 := by omega
            have p2 : A.length + (B.length + 1) + 1 < 4611686018427387904 := by omega
            have p3 : A.length + (B.length + 1 + 1) + C.length < 4611686018427387904 := by omega
            have p4 : A.length + (B.length + (C.length + 1) + 1) + 1 < 4611686018427387904 := by omega
            have p5 : A.length + (B.length + (C.length + 1 + 1) + 1) + D.length < 4611686018427387904 := by omega
            have p6 : A.length + (B.length + (C.length + (D.length + 1) + 1) + 1) + 1 < 4611686018427387904 := by omega
            have p7 : A.length + (B.length + (C.length + (D.length + 1 + 1) + 1) + 1) + G.length < 4611686018427387904 := by omega
            have p8 : A.length + (B.length + (C.length + (D.length + (G.length + 1) + 1) + 1) + 1) + 1 < 4611686018427387904 := by omega
            have p9 : acc.length + (A.length + (B.length + (C.length + (D.length + (G.length + 1 + 1) + 1) + 1) + 1)) < 4611686018427387904 := by omega
            simp [b19_0, List.replicate, hi, hc, h54, hF54, h55, hF55, h56, hF56, h57, hF57, h44, k1, k2, h45, k3, k4, h58, k5, hwc, hw2, p0, p1, p2, p3, p4, p5, p6, p7, p8, p9]

end Go.Ev

set_option linter.unusedSimpArgs false
set_option linter.unusedVariables false
namespace Go.Ev
open Go.Proofs

/-- Rows as a program can hold them, their words too. -/
def RowD.fits2 (r : RowD) : Prop := r.name.length < 1000000000 ∧ r.N.length < 100000000000 ∧ (∀ n ∈ r.N, n < 18446744073709551616) ∧ r.S.length < 1000000000 ∧ ∀ s ∈ r.S, s.length < 1000000000

theorem swLine_len (r : RowD) (hr : r.fits2) (h : swOk r = true) : (swLine r).length ≤ 2000000200 := by
  obtain ⟨a, b, c, s, e1, e2, _⟩ := swOk_spec h
  obtain ⟨name, N, S⟩ := r
  simp only at e1 e2
  subst e1; subst e2
  obtain ⟨g1, _, g3, _, g5⟩ := hr
  have l1 := leftS_len name 39
  have l2 := leftS_len s 15
  have l3 := decS_len20 (g3 a (by simp))
  have l4 := decS_len20 (g3 b (by simp))
  obtain ⟨r1, r2⟩ := i64_range c
  have l5 := sdecS_len r1 r2
  have g1' : name.length < 1000000000 := g1
  have g5' : s.length < 1000000000 := g5 s (by simp)
  simp only [swLine, List.length_append, List.length_cons, List.length_nil]
  omega

theorem loop19 (E : Env) (cf : CallF) (h44 : E.pure 44 = some F44) (h45 : E.pure 45 = some F45) (h54 : E.pure 54 = some F54) (h55 : E.pure 55 = some F55) (h56 : E.pure 56 = some F56) (h57 : E.pure 57 = some F57) (h58 : E.pure 58 = some F58) (xs : List SV) (m : Nat) (hxs : xs.length < 1000000000000) :
    ∀ (rest : List RowD) (pre : List SV) (acc : List UInt8) (bx : List Box) (k : Nat), xs = pre ++ rowsSV rest → (∀ r ∈ rest, r.fits2) → acc.length + rest.length * 2000000200 < 2305843009213693952 → rest.length < k →
      ∃ bx', rounds (evC E cf m b19_0) k { tm := List.replicate 4 (.sv .undef) ++ [.sv (.str acc), .sv .undef, .sv .undef, .sv (.sl xs), .sv (.int .i64 xs.length), .sv (.int .i64 pre.length)] ++ List.replicate 68 (.sv .undef), lz := none, bx := bx, df := [] } =
        if rest.all swOk = true then some (.exit 0, { tm := List.replicate 4 (.sv .undef) ++ [.sv (.str (acc ++ (rest.map swLine).flatten))] ++ List.replicate 73 (.sv .undef), lz := none, bx := bx', df := [] })
        else some (.ret, { tm := [.sv .undef, .sv .undef, .sv (.str []), .sv (.int .i64 2)] ++ List.replicate 74 (.sv .undef), lz := none, bx := bx', df := [] }) := by
  intro rest
  induction rest with
  | nil =>
    intro pre acc bx k hsp _ _ hk
    obtain ⟨k, rfl⟩ : ∃ k', k = k' + 1 := ⟨k - 1, by omega⟩
    have hlt : ¬ (pre.length < xs.length) := by rw [hsp]; simp [rowsSV]
    refine ⟨bx, ?_⟩
    simp only [List.all_nil, if_true]
    refine rounds_out ?_ (by simp)
    simp [b19_0, List.replicate, hlt]
  | cons r rest ih =>
    intro pre acc bx k hsp hr hb hk
    obtain ⟨k, rfl⟩ : ∃ k', k = k' + 1 := ⟨k - 1, by omega⟩
    have hlt : pre.length < xs.length := by rw [hsp]; simp [rowsSV]
    have hc : ∀ h : pre.length < xs.length, xs[pre.length]'h = r.sv := by subst hsp; simp [rowsSV]
    obtain ⟨g1, g2, g3, g4, g5⟩ := hr r (by simp)
    simp only [List.length_cons, Nat.add_mul] at hb
    have hst := step19 E cf h44 h45 h54 h55 h56 h57 h58 xs m k r pre.length bx acc hlt hc g1 g3 g2 g4 g5 (by omega) hxs
    rw [hst]
    cases hok : swOk r with
    | false => exact ⟨bx ++ [rowBox r], by simp [hok]⟩
    | true =>
      have hll := swLine_len r (hr r (by simp)) hok
      obtain ⟨bx', he⟩ := ih (pre ++ [r.sv]) (acc ++ swLine r) (bx ++ [rowBox r]) k (by rw [hsp]; simp [rowsSV]) (fun q hq => hr q (by simp [hq])) (by simp only [List.length_append]; omega) (by simp at hk; omega)
      refine ⟨bx', ?_⟩
      rw [show ((pre ++ [r.sv]).length : Int) = ((pre.length + 1 : Nat) : Int) from by simp] at he
      rw [if_pos rfl, he, show acc ++ ((r :: rest).map swLine).flatten = acc ++ swLine r ++ (rest.map swLine).flatten from by simp]
      simp only [List.all_cons, hok, Bool.true_and]

def rowsFit2 (l : List RowD) : Prop := l.length < 100000000 ∧ ∀ r ∈ l, r.fits2

theorem ev19 (E : Env) (h : E.code 19 = some c19) (h44 : E.pure 44 = some F44) (h45 : E.pure 45 = some F45) (h54 : E.pure 54 = some F54) (h55 : E.pure 55 = some F55) (h56 : E.pure 56 = some F56) (h57 : E.pure 57 = some F57) (h58 : E.pure 58 = some F58) (l : List RowD) (hf : rowsFit2 l) (n : Nat) (hn : l.length < n) :
    evP E n 19 [.sl (rowsSV l)] = some (.sv (.tup (if l.all swOk = true then [.str (swHead ++ (l.map swLine).flatten), .int .i64 1] else [.str [], .int .i64 2]))) := by
  unfold evP
  simp only [h]
  have hlen : (rowsSV l).length = l.length := by simp [rowsSV]
  obtain ⟨hl, hf⟩ := hf
  obtain ⟨bx', he⟩ := loop19 E (evF E n) h44 h45 h54 h55 h56 h57 h58 (rowsSV l) n (by rw [hlen]; omega) l [] swHead [] n rfl hf (by simp only [swHead, List.length_cons, List.length_nil]; omega) hn
  simp only [List.replicate, List.cons_append, List.nil_append, List.length_nil, Int.ofNat_zero, Int.natCast_zero, swHead] at he
  cases hv : l.all swOk with
  | true => simp only [hv, if_true] at he; simp [c19, List.replicate, he, swHead]
  | false => simp only [hv, Bool.false_eq_true, if_false] at he; simp [c19, List.replicate, he]

noncomputable def F19 : List SV → Option AV
  | [.sl l] => onlyIf (l = rowsSV (l.map unrow) ∧ rowsFit2 (l.map unrow)) (some (.sv (.tup (if (l.map unrow).all swOk = true then [.str (swHead ++ ((l.map unrow).map swLine).flatten), .int .i64 1] else [.str [], .int .i64 2]))))
  | _ => none

theorem F19_eq (l : List RowD) (h : rowsFit2 l) : F19 [.sl (rowsSV l)] = some (.sv (.tup (if l.all swOk = true then [.str (swHead ++ (l.map swLine).flatten), .int .i64 1] else [.str [], .int .i64 2]))) := by
  unfold F19
  simp only [unrows]
  exact onlyIf_pos ⟨trivial, h⟩

/-! ### Texts alike but for blanks -/

theorem joinS_len {b : List UInt8} (l : List (List UInt8)) : (joinS b l).length ≤ (l.map List.length).sum + l.length * b.length := by
  have h1 : ∀ (l : List (List UInt8)), (l.map fun y => b ++ y).flatten.length = (l.map List.length).sum + l.length * b.length := by
    intro l
    induction l with
    | nil => simp
    | cons y l ih => simp only [List.map_cons, List.flatten_cons, List.length_append, List.length_cons, List.sum_cons, Nat.add_mul, ih]; omega
  cases l with
  | nil => simp [joinS]
  | cons x l =>
    simp only [joinS, List.length_append, List.map_cons, List.sum_cons, List.length_cons, Nat.add_mul, h1]
    omega

theorem fieldG_sum : ∀ (s cur : List UInt8), ((fieldG cur s).map List.length).sum ≤ cur.length + s.length
  | [], cur => by simp only [fieldG]; split <;> simp
  | c :: s, cur => by
    have h1 := fieldG_sum s []
    have h2 := fieldG_sum s (cur ++ [c])
    simp only [List.length_append, List.length_cons, List.length_nil] at h1 h2
    simp only [fieldG, List.length_cons]
    split
    · split
      · omega
      · simp only [List.map_cons, List.sum_cons]; omega
    · omega

/-- A line's fields with single blanks between. -/
def normL (s : List UInt8) : List UInt8 := joinS [32] (fieldsL s)

theorem F122_fields (s : List UInt8) (hs : s.length < 100000000000) : F122 [.sl (strs (fieldsL s)), .str [32]] = some (.sv (.str (normL s))) := by
  obtain ⟨_, k1, k2⟩ := fieldsV_shape s
  refine F122_eq (fieldsL s) [32] (by omega) ?_
  have h1 := joinS_len (b := [32]) (fieldsL s)
  have h2 := fieldG_sum s []
  rw [← fieldsL_eq] at h2
  simp only [List.length_cons, List.length_nil] at h1 h2
  omega

theorem loop79 (E : Env) (cf : CallF) (h52 : E.pure 52 = some F52) (h122 : E.pure 122 = some F122) (m : Nat) (xs ys : List SV) (hx : xs.length < 1000000000000) :
    ∀ (ra rb : List (List UInt8)) (pa pb : List SV) (k : Nat), xs = pa ++ strs ra → ys = pb ++ strs rb → ra.length = rb.length → pa.length = pb.length → (∀ s ∈ ra, s.length < 100000000000) → (∀ s ∈ rb, s.length < 100000000000) → ra.length < k →
      rounds (evC E cf m b79_0) k { tm := List.replicate 5 (.sv .undef) ++ [.sv (.sl xs), .sv (.sl ys)] ++ List.replicate 11 (.sv .undef) ++ [.sv (.int .i64 xs.length), .sv (.int .i64 pa.length)] ++ List.replicate 16 (.sv .undef), lz := none, bx := [], df := [] } =
        if ra.map normL = rb.map normL then some (.exit 0, { tm := List.replicate 36 (.sv .undef), lz := none, bx := [], df := [] })
        else some (.ret, { tm := List.replicate 4 (.sv .undef) ++ [.sv (.bool false)] ++ List.replicate 31 (.sv .undef), lz := none, bx := [], df := [] }) := by
  intro ra
  induction ra with
  | nil =>
    intro rb pa pb k h1 h2 h3 h4 _ _ hk
    obtain ⟨k, rfl⟩ : ∃ k', k = k' + 1 := ⟨k - 1, by omega⟩
    obtain rfl : rb = [] := List.eq_nil_of_length_eq_zero (by simpa using h3.symm)
    have hlt : ¬ (pa.length < xs.length) := by rw [h1]; simp [strs]
    simp only [List.map_nil, if_true]
    refine rounds_out ?_ (by simp)
    simp [b79_0, List.replicate, hlt]
  | cons a ra ih =>
    intro rb pa pb k h1 h2 h3 h4 ha hb hk
    obtain ⟨k, rfl⟩ : ∃ k', k = k' + 1 := ⟨k - 1, by omega⟩
    cases rb with
    | nil => simp at h3
    | cons b rb =>
      have hlt : pa.length < xs.length := by rw [h1]; simp [strs]
      have hlt2 : pa.length < ys.length := by rw [h2, h4]; simp [strs]
      have hc : ∀ h : pa.length < xs.length, xs[pa.length]'h = .str a := by subst h1; simp [strs]
      have hc2 : ∀ h : pa.length < ys.length, ys[pa.length]'h = .str b := by
        intro h
        have : ys[pa.length]? = some (.str b) := by rw [h2, h4]; simp [strs]
        rw [List.getElem?_eq_getElem h] at this
        exact Option.some.inj this
      have hw2 : IntKind.i64.wrap ((pa.length : Int) + 1) = ((pa ++ [SV.str a]).length : Int) := by rw [IntKind.wrap_i64]; simp; omega
      have f1 := F52_eq a (by have := ha a (by simp); omega)
      have f2 := F52_eq b (by have := hb b (by simp); omega)
      have f3 := F122_fields a (ha a (by simp))
      have f4 := F122_fields b (hb b (by simp))
      have he := ih rb (pa ++ [.str a]) (pb ++ [.str b]) k (by rw [h1]; simp [strs]) (by rw [h2]; simp [strs]) (by simpa using h3) (by simp [h4]) (fun s hs => ha s (by simp [hs])) (fun s hs => hb s (by simp [hs])) (by simp at hk; omega)
      by_cases hn : normL a = normL b
      · have hcond : ((a :: ra).map normL = (b :: rb).map normL) = (ra.map normL = rb.map normL) := by simp [hn]
        simp only [hcond]
        rw [← he]
        refine rounds_step ?_
        rw [hn] at f3
        simp [b79_0, List.replicate, hlt, hlt2, hc, hc2, hw2, h52, f1, f2, h122, f3, f4]
      · have hcond : ¬ ((a :: ra).map normL = (b :: rb).map normL) := by simp [hn]
        rw [if_neg hcond]
        have hnb : (normL a == normL b) = false := by simpa using hn
        have hnc : (normL a != normL b) = true := by simpa using hn
        refine rounds_out ?_ (by simp)
        simp [b79_0, List.replicate, hlt, hlt2, hc, hc2, hw2, h52, f1, f2, h122, f3, f4, hn, hnb, hnc]

open Classical in
noncomputable def looseV (a b : List UInt8) : Bool := if (linesL a).map normL = (linesL b).map normL then true else false

theorem ev79 (E : Env) (h : E.code 79 = some c79) (h28 : E.pure 28 = some F28) (h52 : E.pure 52 = some F52) (h122 : E.pure 122 = some F122) (a b : List UInt8) (ha : a.length < 100000000000) (hb : b.length < 100000000000) (n : Nat) (hn : a.length + 1 < n) :
    evP E n 79 [.str a, .str b] = some (.sv (.bool (looseV a b))) := by
  unfold evP
  simp only [h]
  have f1 := F28_eq a (by omega)
  have f2 := F28_eq b (by omega)
  obtain ⟨_, a1, a2⟩ := linesV_shape a
  obtain ⟨_, b1, b2⟩ := linesV_shape b
  by_cases hl : (linesL a).length = (linesL b).length
  · have he := loop79 E (evF E n) h52 h122 n (strs (linesL a)) (strs (linesL b)) (by rw [strs_length]; omega) (linesL a) (linesL b) [] [] n rfl rfl hl rfl (fun s hs => by have := a2 s hs; omega) (fun s hs => by have := b2 s hs; omega) (by omega)
    simp only [List.replicate, List.cons_append, List.nil_append, List.length_nil, Int.ofNat_zero, Int.natCast_zero] at he
    have hle : ((strs (linesL a)).length : Int) = ((strs (linesL b)).length : Int) := by rw [strs_length, strs_length, hl]
    unfold looseV
    by_cases hc : (linesL a).map normL = (linesL b).map normL
    · rw [if_pos hc] at he ⊢
      simp [c79, List.replicate, h28, f1, f2, hle] at he ⊢
      simp [he]
    · rw [if_neg hc] at he ⊢
      simp [c79, List.replicate, h28, f1, f2, hle] at he ⊢
      simp [he]
  · have hc : ¬ ((linesL a).map normL = (linesL b).map normL) := fun e => hl (by have := congrArg List.length e; simpa using this)
    have hle : (((strs (linesL a)).length : Int) == ((strs (linesL b)).length : Int)) = false := by rw [strs_length, strs_length, Bool.eq_false_iff]; simp; omega
    have hle2 : (((strs (linesL a)).length : Int) != ((strs (linesL b)).length : Int)) = true := by rw [bne, hle]; rfl
    unfold looseV
    rw [if_neg hc]
    simp [c79, List.replicate, h28, f1, f2, hle2]

end Go.Ev

set_option linter.unusedSimpArgs false
set_option linter.unusedVariables false
namespace Go.Ev
open Go.Proofs

def lastB (s : List UInt8) : Nat := (s.getLastD 0).toNat

def badL (s : List UInt8) : Bool := s == [] || lastB s == 32 || lastB s == 9

theorem last_get {s : List UInt8} (h : s ≠ []) (h1 : s.length - 1 < s.length) : (s[s.length - 1]'h1).toNat = lastB s := by
  unfold lastB
  cases s with
  | nil => exact absurd rfl h
  | cons c t =>
    have : (c :: t).getLastD 0 = (c :: t).getLast (by simp) := by simp [List.getLastD, List.getLast?_eq_some_getLast]
    rw [this, List.getLast_eq_getElem]

theorem loop80 (E : Env) (cf : CallF) (text : List UInt8) (xs : List SV) (hs : xs.length < 1000000000000) (m : Nat) :
    ∀ (rest : List (List UInt8)) (pre : List SV) (k : Nat), xs = pre ++ strs rest → (∀ s ∈ rest, s.length < 100000000000) → rest.length < k →
      rounds (evC E cf m b80_0) k { tm := [.sv (.str text)] ++ List.replicate 5 (.sv .undef) ++ [.sv (.sl xs), .sv (.int .i64 xs.length), .sv (.int .i64 pre.length)] ++ List.replicate 32 (.sv .undef), lz := none, bx := [], df := [] } =
        if rest.all (fun s => !badL s) = true then some (.exit 0, { tm := [.sv (.str text)] ++ List.replicate 40 (.sv .undef), lz := none, bx := [], df := [] })
        else some (.ret, { tm := [.sv .undef, .sv .undef, .sv (.bool false)] ++ List.replicate 38 (.sv .undef), lz := none, bx := [], df := [] }) := by
  intro rest
  induction rest with
  | nil =>
    intro pre k hsp _ hk
    obtain ⟨k, rfl⟩ : ∃ k', k = k' + 1 := ⟨k - 1, by omega⟩
    have hlt : ¬ (pre.length < xs.length) := by rw [hsp]; simp [strs]
    simp only [List.all_nil, if_true]
    refine rounds_out ?_ (by simp)
    simp [b80_0, List.replicate, hlt]
  | cons s rest ih =>
    intro pre k hsp hr hk
    obtain ⟨k, rfl⟩ : ∃ k', k = k' + 1 := ⟨k - 1, by omega⟩
    have hlt : pre.length < xs.length := by rw [hsp]; simp [strs]
    have hc : ∀ h : pre.length < xs.length, xs[pre.length]'h = .str s := by subst hsp; simp [strs]
    have hw2 : IntKind.i64.wrap ((pre.length : Int) + 1) = ((pre ++ [SV.str s]).length : Int) := by rw [IntKind.wrap_i64]; simp; omega
    have he := ih (pre ++ [.str s]) k (by rw [hsp]; simp [strs]) (fun s hs => hr s (by simp [hs])) (by simp at hk; omega)
    have hsl := hr s (by simp)
    by_cases hne : s = []
    · subst hne
      have hb : badL [] = true := rfl
      simp only [List.all_cons, hb, Bool.not_true, Bool.false_and, Bool.false_eq_true, if_false]
      refine rounds_out ?_ (by simp)
      simp [b80_0, List.replicate, hlt, hc]
    · have hneb : (s == []) = false := by simpa using hne
      have hie : s.isEmpty = false := by simpa using hne
      have hpos : 0 < s.length := by
        cases s with
        | nil => exact absurd rfl hne
        | cons _ _ => simp
      have hl1 : s.length - 1 < s.length := by omega
      have hlast := last_get hne hl1
      have hw3 : IntKind.i64.wrap ((s.length : Int) - 1) = ((s.length - 1 : Nat) : Int) := by rw [IntKind.wrap_i64]; omega
      have hbad : badL s = (lastB s == 32 || lastB s == 9) := by unfold badL; rw [hneb]; rfl
      by_cases h32 : lastB s = 32
      · have hb : badL s = true := by rw [hbad, h32]; rfl
        simp only [List.all_cons, hb, Bool.not_true, Bool.false_and, Bool.false_eq_true, if_false]
        refine rounds_out ?_ (by simp)
        rw [h32] at hlast
        simp [b80_0, List.replicate, hlt, hc, hie, hw3, hl1, hlast]
      · have e32 : ((lastB s : Int) == 32) = false := by rw [Bool.eq_false_iff]; simp; omega
        by_cases h9 : lastB s = 9
        · have hb : badL s = true := by rw [hbad, h9]; rfl
          simp only [List.all_cons, hb, Bool.not_true, Bool.false_and, Bool.false_eq_true, if_false]
          refine rounds_out ?_ (by simp)
          rw [h9] at hlast
          simp [b80_0, List.replicate, hlt, hc, hie, hw3, hl1, hlast]
        · have e9 : ((lastB s : Int) == 9) = false := by rw [Bool.eq_false_iff]; simp; omega
          have hb : badL s = false := by rw [hbad]; simp [h32, h9]
          simp only [List.all_cons, hb, Bool.not_false, Bool.true_and]
          rw [← he]
          refine rounds_step ?_
          simp [b80_0, List.replicate, hlt, hc, hie, hw3, hl1, hlast, e32, e9, hw2]

def leadsV (text : List UInt8) : Bool := (linesL text).all (fun s => !badL s) && (text == [] || lastB text == 10)

theorem ev80 (E : Env) (h : E.code 80 = some c80) (h28 : E.pure 28 = some F28) (a : List UInt8) (ha : a.length < 100000000000) (n : Nat) (hn : a.length + 1 < n) :
    evP E n 80 [.str a] = some (.sv (.bool (leadsV a))) := by
  unfold evP
  simp only [h]
  have f1 := F28_eq a (by omega)
  obtain ⟨_, a1, a2⟩ := linesV_shape a
  have he := loop80 E (evF E n) a (strs (linesL a)) (by rw [strs_length]; omega) n (linesL a) [] n rfl (fun s hs => by have := a2 s hs; omega) (by omega)
  simp only [List.replicate, List.cons_append, List.nil_append, List.length_nil, Int.ofNat_zero, Int.natCast_zero] at he
  unfold leadsV
  cases hv : (linesL a).all (fun s => !badL s) with
  | false =>
    simp only [hv, Bool.false_eq_true, if_false] at he
    simp [c80, List.replicate, h28, f1, he]
  | true =>
    simp only [hv, if_true] at he
    by_cases hne : a = []
    · subst hne
      simp [c80, List.replicate, h28, f1, he]
    · have hneb : (a == []) = false := by simpa using hne
      have hie : a.isEmpty = false := by simpa using hne
      have hpos : 0 < a.length := by
        cases a with
        | nil => exact absurd rfl hne
        | cons _ _ => simp
      have hl1 : a.length - 1 < a.length := by omega
      have hlast := last_get hne hl1
      have hw3 : IntKind.i64.wrap ((a.length : Int) - 1) = ((a.length - 1 : Nat) : Int) := by rw [IntKind.wrap_i64]; omega
      have e10 : ((lastB a : Int) == 10) = (lastB a == 10) := by rw [Bool.eq_iff_iff]; simp; omega
      simp [c80, List.replicate, h28, f1, he, hie, hw3, hl1, hlast, e10]

noncomputable def F79 : List SV → Option AV
  | [.str a, .str b] => onlyIf (a.length < 100000000000 ∧ b.length < 100000000000) (some (.sv (.bool (looseV a b))))
  | _ => none

noncomputable def F80 : List SV → Option AV
  | [.str a] => onlyIf (a.length < 100000000000) (some (.sv (.bool (leadsV a))))
  | _ => none

end Go.Ev

set_option linter.unusedSimpArgs false
set_option linter.unusedVariables false
namespace Go.Ev
open Go.Proofs

/-- meant, where blanks only part fields. -/
theorem ev31b (E : Env) (h : E.code 31 = some c31) (h78 : E.pure 78 = some F78) (h79 : E.pure 79 = some F79) (h80 : E.pure 80 = some F80) (P : Nat) (F : List SV → Option AV) (hP : E.pure P = some F) (text : List UInt8) (hs : text.length < 1000000) (rows : List SV) (ok : Bool) (out : List UInt8) (told : Int) (ho : told = 1 → out.length < 100000000000)
    (hF : F [.sl rows] = some (.sv (.tup [.str out, .int .i64 told]))) (n : Nat) :
    evP E n 31 [.str text, .sl rows, .bool ok, .fn P [] [], .bool true] = some (.sv (.tup (if ok = true ∧ text.all plainC = true ∧ told = 1 ∧ (out = text ∨ (looseV out text = true ∧ leadsV text = true)) then [.sl rows, .bool true, .int .i64 1] else [.sl [], .bool false, .int .i64 2]))) := by
  unfold evP
  simp only [h]
  have hF78 := F78_eq text (by omega)
  cases ok with
  | false => simp [c31, List.replicate]
  | true =>
    cases hp : text.all plainC with
    | false => rw [hp] at hF78; simp [c31, List.replicate, h78, hF78]
    | true =>
      rw [hp] at hF78
      by_cases h1 : told = 1
      · subst h1
        have hF79 : F79 [.str out, .str text] = some (.sv (.bool (looseV out text))) := onlyIf_pos ⟨ho rfl, by omega⟩
        have hF80 : F80 [.str text] = some (.sv (.bool (leadsV text))) := onlyIf_pos (by omega)
        by_cases h2 : out = text
        · subst h2
          simp [c31, List.replicate, h78, hF78, hP, hF]
        · have h2b : (out != text) = true := by simpa using h2
          have h2c : (out == text) = false := by simpa using h2
          cases hl : looseV out text with
          | false => rw [hl] at hF79; simp [c31, List.replicate, h78, hF78, hP, hF, h2, h2b, h2c, h79, hF79]
          | true =>
            rw [hl] at hF79
            cases hd : leadsV text with
            | false => rw [hd] at hF80; simp [c31, List.replicate, h78, hF78, hP, hF, h2, h2b, h2c, h79, hF79, h80, hF80]
            | true => rw [hd] at hF80; simp [c31, List.replicate, h78, hF78, hP, hF, h2, h2b, h2c, h79, hF79, h80, hF80]
      · have h1b : (told != 1) = true := by simpa using h1
        simp [c31, List.replicate, h78, hF78, hP, hF, h1, h1b]

theorem swLines_len (l : List RowD) (hl : l.length ≤ 40000) (hf : ∀ r ∈ l, r.fits2) (hn : ∀ r ∈ l, r.name.length ≤ 40000 ∧ ∀ s ∈ r.S, s.length ≤ 40000) (ho : l.all swOk = true) : (swHead ++ (l.map swLine).flatten).length < 100000000000 := by
  have key : ∀ (l : List RowD), (∀ r ∈ l, r.fits2) → (∀ r ∈ l, r.name.length ≤ 40000 ∧ ∀ s ∈ r.S, s.length ≤ 40000) → (∀ r ∈ l, swOk r = true) → (l.map swLine).flatten.length ≤ l.length * 80300 := by
    intro l
    induction l with
    | nil => simp
    | cons r l ih =>
      intro h1 h2 h3
      have i1 := ih (fun q hq => h1 q (by simp [hq])) (fun q hq => h2 q (by simp [hq])) (fun q hq => h3 q (by simp [hq]))
      have i2 : (swLine r).length ≤ 80300 := by
        obtain ⟨a, b, c, s, e1, e2, _⟩ := swOk_spec (h3 r (by simp))
        obtain ⟨g1, g2⟩ := h2 r (by simp)
        obtain ⟨_, _, g3, _, _⟩ := h1 r (by simp)
        obtain ⟨name, N, S⟩ := r
        simp only at e1 e2
        subst e1; subst e2
        have l1 := leftS_len name 39
        have l2 := leftS_len s 15
        have l3 := decS_len20 (g3 a (by simp))
        have l4 := decS_len20 (g3 b (by simp))
        obtain ⟨r1, r2⟩ := i64_range c
        have l5 := sdecS_len r1 r2
        have g1' : name.length ≤ 40000 := g1
        have g5' : s.length ≤ 40000 := g2 s (by simp)
        simp only [swLine, List.length_append, List.length_cons, List.length_nil]
        omega
      simp only [List.map_cons, List.flatten_cons, List.length_append, List.length_cons, Nat.add_mul]
      omega
  have := key l hf hn (List.all_eq_true.1 ho)
  have h2 : l.length * 80300 ≤ 40000 * 80300 := Nat.mul_le_mul_right _ hl
  simp only [List.length_append, swHead, List.length_cons, List.length_nil]
  omega

/-- A table of five fields: two words and three whole numbers. -/
def swTab : List (List UInt8) → Option (List RowD)
  | [] => some []
  | s :: l => match fieldsL s with
    | [a, b, x, y, z] => match wholesV [x, y, z] with
      | some n => match swTab l with
        | some rs => some (⟨a, n, [b]⟩ :: rs)
        | none => none
      | none => none
    | _ => none

theorem wholeV_lt {s : List UInt8} {m : Nat} (h : wholeV s = some m) : m < 18446744073709551616 := by
  unfold wholeV at h
  split at h
  · cases h
  · split at h
    · split at h <;> simp only [Option.some.injEq, reduceCtorEq] at h
      rw [← h]; unfold twoC; omega
    · exact numV_lt (by omega) _ 0 m (by omega) h

theorem wholesV_fit : ∀ {l : List (List UInt8)} {ms : List Nat}, wholesV l = some ms → ms.length = l.length ∧ ∀ m ∈ ms, m < 18446744073709551616
  | [], ms, h => by simp only [wholesV, Option.some.injEq] at h; subst h; simp
  | s :: l, ms, h => by
    simp only [wholesV] at h
    split at h <;> try (simp at h; done)
    rename_i v hv
    split at h <;> simp only [Option.some.injEq, reduceCtorEq] at h
    rename_i vs hvs
    subst h
    obtain ⟨h1, h2⟩ := wholesV_fit hvs
    exact ⟨by simp [h1], fun m hm => by
      rcases List.mem_cons.1 hm with rfl | hm
      · exact wholeV_lt hv
      · exact h2 m hm⟩

theorem swTab_fit {B : Nat} (hB : B < 1000000000) : ∀ {l : List (List UInt8)} {rs : List RowD}, swTab l = some rs → (∀ s ∈ l, s.length ≤ B) → rs.length = l.length ∧ (∀ r ∈ rs, r.fits2) ∧ ∀ r ∈ rs, r.name.length ≤ B ∧ ∀ s ∈ r.S, s.length ≤ B
  | [], rs, h, _ => by simp only [swTab, Option.some.injEq] at h; subst h; simp
  | s :: l, rs, h, hl => by
    simp only [swTab] at h
    split at h <;> try (simp at h; done)
    rename_i a b x y z hf
    split at h <;> try (simp at h; done)
    rename_i n hn
    split at h <;> simp only [Option.some.injEq, reduceCtorEq] at h
    rename_i rs' hrs
    subst h
    obtain ⟨h1, h2, h3⟩ := swTab_fit hB hrs (fun x hx => hl x (by simp [hx]))
    obtain ⟨_, k1, k2⟩ := fieldsV_shape s
    rw [hf] at k2
    have hs := hl s (by simp)
    have ha := k2 a (by simp)
    have hb := k2 b (by simp)
    obtain ⟨d1, d2⟩ := wholesV_fit hn
    simp only [List.length_cons, List.length_nil] at d1
    refine ⟨by simp [h1], fun r hr => ?_, fun r hr => ?_⟩
    · rcases List.mem_cons.1 hr with rfl | hr
      · refine ⟨by simp only; omega, by simp only; omega, d2, by simp, fun q hq => ?_⟩
        obtain rfl := List.mem_singleton.1 hq
        omega
      · exact h2 r hr
    · rcases List.mem_cons.1 hr with rfl | hr
      · refine ⟨by simp only; omega, fun q hq => ?_⟩
        obtain rfl := List.mem_singleton.1 hq
        omega
      · exact h3 r hr

set_option maxHeartbeats 4000000 in
theorem loop18 (E : Env) (cf : CallF) (h52 : E.pure 52 = some F52) (h53 : E.pure 53 = some F53) (text : List UInt8) (xs : List SV) (hs : xs.length < 1000000000000) (m : Nat) :
    ∀ (rest : List (List UInt8)) (pre acc : List SV) (k : Nat), xs = pre ++ strs rest → (∀ s ∈ rest, s.length < 10000000000) → acc.length = pre.length → rest.length < k →
      rounds (evC E cf m b18_0) k { tm := [.sv (.str text)] ++ List.replicate 5 (.sv .undef) ++ [accA 51 acc] ++ List.replicate 11 (.sv .undef) ++ [.sv (.sl xs), .sv (.int .i64 xs.length), .sv (.int .i64 pre.length)] ++ List.replicate 33 (.sv .undef), lz := none, bx := [], df := [] } =
        match swTab rest with
        | some ms => some (.exit 0, { tm := [.sv (.str text)] ++ List.replicate 5 (.sv .undef) ++ [accA 51 (acc ++ rowsSV ms)] ++ List.replicate 47 (.sv .undef), lz := none, bx := [], df := [] })
        | none => some (.ret, { tm := [.sv .undef, .sv .undef, .sv .nilS, .sv (.bool false), .sv (.int .i64 2)] ++ List.replicate 49 (.sv .undef), lz := none, bx := [], df := [] }) := by
  intro rest
  induction rest with
  | nil =>
    intro pre acc k hsp _ _ hk
    obtain ⟨k, rfl⟩ : ∃ k', k = k' + 1 := ⟨k - 1, by omega⟩
    have hlt : ¬ (pre.length < xs.length) := by rw [hsp]; simp [strs]
    simp only [swTab]
    refine rounds_out ?_ (by simp)
    simp [b18_0, List.replicate, hlt, rowsSV]
  | cons s rest ih =>
    intro pre acc k hsp hr hal hk
    obtain ⟨k, rfl⟩ : ∃ k', k = k' + 1 := ⟨k - 1, by omega⟩
    have hlt : pre.length < xs.length := by rw [hsp]; simp [strs]
    have hc : ∀ h : pre.length < xs.length, xs[pre.length]'h = .str s := by subst hsp; simp [strs]
    have hw2 : IntKind.i64.wrap ((pre.length : Int) + 1) = ((pre ++ [SV.str s]).length : Int) := by rw [IntKind.wrap_i64]; simp; omega
    have hsl := hr s (by simp)
    have hF := F52_eq s (by omega)
    obtain ⟨_, k1, k2⟩ := fieldsV_shape s
    have hl1 : (acc.length + 1) * 64 ≤ 140737488355328 := by omega
    have hl2 : acc.length + 1 ≤ 140737488355328 := by omega
    by_cases h5 : (fieldsL s).length = 5
    · obtain ⟨a, b, x, y, z, hfl⟩ : ∃ a b x y z, fieldsL s = [a, b, x, y, z] := by
        match h : fieldsL s, h5 with
        | [a, b, x, y, z], _ => exact ⟨a, b, x, y, z, rfl⟩
      rw [hfl] at hF k2
      have hF2 := F53_eq [x, y, z] (by simp) (fun q hq => by have := k2 q (by simp at hq ⊢; rcases hq with rfl | rfl | rfl <;> simp); omega)
      simp only [strs, List.map_cons, List.map_nil] at hF hF2
      cases hw : wholesV [x, y, z] with
      | none =>
        have htab : swTab (s :: rest) = none := by simp [swTab, hfl, hw]
        rw [hw] at hF2
        rw [htab]
        refine rounds_out ?_ (by simp)
        simp [b18_0, List.replicate, hlt, hc, h52, hF, h53, hF2]
      | some n =>
        rw [hw] at hF2
        have he := ih (pre ++ [SV.str s]) (acc ++ [RowD.sv ⟨a, n, [b]⟩]) k (by rw [hsp]; simp [strs]) (fun q hq => hr q (by simp [hq])) (by simp [hal]) (by simp at hk; omega)
        have hst : evC E cf m b18_0 { tm := [.sv (.str text)] ++ List.replicate 5 (.sv .undef) ++ [accA 51 acc] ++ List.replicate 11 (.sv .undef) ++ [.sv (.sl xs), .sv (.int .i64 xs.length), .sv (.int .i64 pre.length)] ++ List.replicate 33 (.sv .undef), lz := none, bx := [], df := [] } =
            some (.normal, { tm := [.sv (.str text)] ++ List.replicate 5 (.sv .undef) ++ [accA 51 (acc ++ [RowD.sv ⟨a, n, [b]⟩])] ++ List.replicate 11 (.sv .undef) ++ [.sv (.sl xs), .sv (.int .i64 xs.length), .sv (.int .i64 (pre ++ [SV.str s]).length)] ++ List.replicate 33 (.sv .undef), lz := none, bx := [], df := [] }) := by
          cases acc with
          | nil => simp [b18_0, List.replicate, hlt, hc, h52, hF, h53, hF2, hw2, accA, RowD.sv, strs]
          | cons q qs =>
            simp only [List.length_cons] at hl1 hl2
            simp [b18_0, List.replicate, hlt, hc, h52, hF, h53, hF2, hw2, accA, RowD.sv, strs, hl1, hl2]
        rw [rounds_step hst, he]
        have htab : swTab (s :: rest) = (match swTab rest with | some rs => some (⟨a, n, [b]⟩ :: rs) | none => none) := by simp [swTab, hfl, hw]
        rw [htab]
        cases swTab rest with
        | none => rfl
        | some ms => simp [rowsSV]
    · have htab : swTab (s :: rest) = none := by
        simp only [swTab]
        split
        · rename_i heq; rw [heq] at h5; simp at h5
        · rfl
      have e5 : (((strs (fieldsL s)).length : Int) == 5) = false := by rw [strs_length, Bool.eq_false_iff]; simp; omega
      have e5b : (((strs (fieldsL s)).length : Int) != 5) = true := by rw [bne, e5]; rfl
      rw [htab]
      refine rounds_out ?_ (by simp)
      simp [b18_0, List.replicate, hlt, hc, h52, hF, e5, e5b]

end Go.Ev
