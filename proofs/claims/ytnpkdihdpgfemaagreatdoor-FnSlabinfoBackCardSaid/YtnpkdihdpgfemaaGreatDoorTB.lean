/- Slabs: the tree, whole; the reference's reading. -/
/- Slabs: the reference's reading, whole. -/
import Derived.Test.YtnpkdihdpgfemaaGreatDoorTA
set_option linter.unusedSimpArgs false
set_option linter.unusedVariables false
namespace Go.Ev
open Go.Proofs

theorem loop1024_1 (E : Env) (cf : CallF) (m : Nat) (hm : 20 < m) (h33 : E.pure 43 = some F33) (h34 : E.pure 57 = some F34) (h66 : E.pure 42 = some F66) (h58 : Has E 58 S1058) (xs : List SV) (hxl : xs.length < 100000000) (z : Box) :
    ∀ (rest : List RowD) (pre acc : List SV) (i : Nat) (bx : List Box) (k : Nat), xs = pre ++ rowsSV rest → i = pre.length → acc.length = i → (∀ r ∈ rest, slOk r = true) → rest.length < k →
      ∃ bx', roundsA (evCA E cf m b1024_1) k (st1024 xs acc i z bx) = some (.exit 0, { nt := 59, tm := [(6, accA 43 (acc ++ rest.map slNode)), (2, .ptr 0 0)], lz := none, bx := z :: bx', df := [] }) := by
  intro rest
  induction rest with
  | nil =>
    intro pre acc i bx k hsp hi ha _ hk
    obtain ⟨k, rfl⟩ : ∃ k', k = k' + 1 := ⟨k - 1, by omega⟩
    have hlt : ¬ (i < xs.length) := by rw [hsp, hi]; simp [rowsSV]
    refine ⟨bx, roundsA_out ?_ (by simp)⟩
    simp [st1024, b1024_1, hlt]
  | cons r rest ih =>
    intro pre acc i bx k hsp hi ha hr hk
    obtain ⟨k, rfl⟩ : ∃ k', k = k' + 1 := ⟨k - 1, by omega⟩
    have hlt : i < xs.length := by rw [hsp, hi]; simp [rowsSV]
    obtain ⟨c, t, n0, n1, n2, n3, n4, n5, n6, n7, n8, n9, n10, hs⟩ := slOk_spec (hr r (by simp))
    have hreq := slRow_eq hs
    have hc : ∀ h : i < xs.length, xs[i]'h = .agg [.str (c :: t), .sl [.int .u64 (n0 : Int), .int .u64 (n1 : Int), .int .u64 (n2 : Int), .int .u64 (n3 : Int), .int .u64 (n4 : Int), .int .u64 (n5 : Int), .int .u64 (n6 : Int), .int .u64 (n7 : Int), .int .u64 (n8 : Int), .int .u64 (n9 : Int), .int .u64 (n10 : Int)], .sl []] := by subst hi; subst hsp; simp [rowsSV, RowD.sv, hreq, u64s, strs]
    have hst := step1024_1 E cf m hm h33 h34 h66 h58 xs acc (by omega) r c t n0 n1 n2 n3 n4 n5 n6 n7 n8 n9 n10 hs i hlt (by omega) hc z bx
    obtain ⟨bx', he⟩ := ih (pre ++ [r.sv]) (acc ++ [slNode r]) (i + 1) (bx ++ [rowBox r]) k (by rw [hsp]; simp [rowsSV]) (by simp [hi]) (by simp [ha]) (fun q hq => hr q (by simp [hq])) (by simp at hk; omega)
    refine ⟨bx', ?_⟩
    rw [roundsA_step hst, he]
    simp

def SlTreeS (F : List SV → Option AV) : Prop := ∀ l : List RowD, rowsFit3 l → l.all slOk = true → F [.sl (rowsSV l)] = some (.sv (.tup [slTree l, .int .i64 1]))

theorem ev1024 (E : Env) (h : E.code 24 = some c1024) (h23 : Has E 23 SlPrint) (h33 : E.pure 43 = some F33) (h34 : E.pure 57 = some F34) (h36 : E.pure 59 = some F36) (h66 : E.pure 42 = some F66) (h58 : Has E 58 S1058) : SlTreeS (autoF E 24) := by
  obtain ⟨FP, hpP, hP⟩ := h23
  intro l hf hok
  have hP1 := hP l hf
  rw [if_pos hok] at hP1
  have hlen : (rowsSV l).length = l.length := by simp [rowsSV]
  obtain ⟨bx', he⟩ := loop1024_1 E (evF E (l.length + 21)) (l.length + 21) (by omega) h33 h34 h66 h58 (rowsSV l) (by rw [hlen]; exact hf.1) (.live [.sv (.str []), .sv (.int .i64 0), .sv (.bool false), .sv (.int .i64 0), .sv (.int .u64 0), .sv (.flt .f64 0), .sv (.str []), .sv .nilS]) l [] [] 0 [] (l.length + 21) rfl rfl rfl (List.all_eq_true.1 hok) (by omega)
  refine autoA_sv (n := l.length + 21) ?_ rfl
  unfold evPA
  simp only [h]
  rw [List.nil_append] at he
  unfold slTree
  simp only [st1024, accA, Int.ofNat_zero, Int.natCast_zero] at he
  generalize slText l = o at *
  generalize l.map slNode = ks at he ⊢
  cases ks with
  | nil => simp only [accA] at he; simp [c1024, hpP, hP1, he, h36, F36, h33, F33, nodeV]
  | cons y ys => simp only [accA] at he; simp [c1024, hpP, hP1, he, h36, F36, h33, F33, nodeV]

/-! ### The reference's reading -/

def slLineV (f : List (List UInt8)) : Option RowD := match f with
  | [g0, g1, g2, g3, g4, g5, g6, g7, g8, g9, g10, g11, g12, g13, g14, g15] => match decsV [g1, g2, g3, g4, g5, g8, g9, g10, g13, g14, g15] with
    | some ns => some ⟨g0, ns, []⟩
    | none => none
  | _ => none

def slTabV : List (List UInt8) → Option (List RowD)
  | [] => some []
  | s :: l => match slLineV (fieldsL s) with
    | some r => match slTabV l with
      | some rs => some (r :: rs)
      | none => none
    | none => none

def bad1026 : SA := { nt := 60, tm := [(4, .sv (.int .i64 2)), (3, .sv (.bool false)), (2, .sv .nilS)], lz := none, bx := [], df := [] }

def st1026 (s : List UInt8) (xs acc : List SV) (i : Nat) : SA := { nt := 60, tm := [(20, .sv (.int .i64 i)), (19, .sv (.int .i64 xs.length)), (18, .sv (.sl xs)), (6, accA 35 acc), (0, .sv (.str s))], lz := none, bx := [], df := [] }

theorem slLineV_n {f : List (List UInt8)} (h : f.length ≠ 16) : slLineV f = none := by
  unfold slLineV
  split
  · exact absurd rfl h
  · rfl

set_option maxHeartbeats 16000000 in
theorem step1026 (E : Env) (cf : CallF) (m : Nat) (h52 : E.pure 65 = some F52) (h77 : E.pure 66 = some F77) (s : List UInt8) (xs acc : List SV) (ha : acc.length < 1000000) (i : Nat) (hlt : i < xs.length) (hxl : xs.length < 1000000000) (c : List UInt8) (hcl : c.length < 1000000) (hc : ∀ h : i < xs.length, xs[i]'h = .str c) :
    evCA E cf m b1026_0 (st1026 s xs acc i) = match slLineV (fieldsL c) with
      | some r => some (.normal, st1026 s xs (acc ++ [r.sv]) (i + 1))
      | none => some (.ret, bad1026) := by
  have hF := F52_eq c (by omega)
  obtain ⟨_, hsh1, hsh2⟩ := fieldsV_shape c
  have hw : IntKind.i64.wrap ((i : Int) + 1) = ((i + 1 : Nat) : Int) := by rw [IntKind.wrap_i64]; omega
  have hl1 : (acc.length + 1) * 64 ≤ 140737488355328 := by omega
  have hl2 : acc.length + 1 ≤ 140737488355328 := by omega
  by_cases hlen : (fieldsL c).length = 16
  rotate_left
  · rw [slLineV_n hlen]
    have hsl : (strs (fieldsL c)).length = (fieldsL c).length := strs_length _
    have hb : (((fieldsL c).length : Int) != 16) = true := by simp; omega
    generalize strs (fieldsL c) = fs at hF hsl
    simp [st1026, bad1026, b1026_0, hlt, hc, h52, hF, hsl, hb]
  generalize fieldsL c = f at *
  have hgl : ∀ x ∈ f, x.length < 1000000 := fun x hx => by have := hsh2 x hx; omega
  match f, hlen with
  | [g0, g1, g2, g3, g4, g5, g6, g7, g8, g9, g10, g11, g12, g13, g14, g15], _ =>
    have hD := F77_eq [g1, g2, g3, g4, g5, g8, g9, g10, g13, g14, g15] (by simp) (fun q hq => by
      have := hgl q (by simp only [List.mem_cons, List.not_mem_nil, or_false] at hq ⊢; rcases hq with rfl | rfl | rfl | rfl | rfl | rfl | rfl | rfl | rfl | rfl | rfl <;> simp)
      omega)
    have hv : slLineV [g0, g1, g2, g3, g4, g5, g6, g7, g8, g9, g10, g11, g12, g13, g14, g15] = match decsV [g1, g2, g3, g4, g5, g8, g9, g10, g13, g14, g15] with
      | some ns => some ⟨g0, ns, []⟩
      | none => none := rfl
    rw [hv]
    simp only [strs, List.map_cons, List.map_nil] at hF hD
    clear hgl hsh1 hsh2 hv
    cases hdv : decsV [g1, g2, g3, g4, g5, g8, g9, g10, g13, g14, g15] with
    | none =>
      rw [hdv] at hD
      simp only at hD ⊢
      simp [st1026, bad1026, b1026_0, hlt, hc, h52, hF, h77, hD]
    | some ds =>
      rw [hdv] at hD
      simp only at hD ⊢
      clear hdv
      unfold RowD.sv
      simp only
      generalize u64s ds = us at *
      cases acc with
      | nil => simp [st1026, b1026_0, hlt, hc, h52, hF, h77, hD, hw, accA, strs]
      | cons y ys =>
        simp only [List.length_cons] at hl1 hl2
        simp [st1026, b1026_0, hlt, hc, h52, hF, h77, hD, hw, accA, strs, hl1, hl2]

end Go.Ev

set_option linter.unusedSimpArgs false
set_option linter.unusedVariables false
namespace Go.Ev
open Go.Proofs

theorem loop1026 (E : Env) (cf : CallF) (m : Nat) (h52 : E.pure 65 = some F52) (h77 : E.pure 66 = some F77) (s : List UInt8) (xs : List SV) (hxl : xs.length < 1000000) :
    ∀ (rest : List (List UInt8)) (pre acc : List SV) (i k : Nat), xs = pre ++ strs rest → i = pre.length → acc.length = i → (∀ x ∈ rest, x.length < 1000000) → rest.length < k →
      roundsA (evCA E cf m b1026_0) k (st1026 s xs acc i) =
        match slTabV rest with
        | some rs => some (.exit 0, { nt := 60, tm := [(6, accA 35 (acc ++ rowsSV rs)), (0, .sv (.str s))], lz := none, bx := [], df := [] })
        | none => some (.ret, bad1026) := by
  intro rest
  induction rest with
  | nil =>
    intro pre acc i k hsp hi _ _ hk
    obtain ⟨k, rfl⟩ : ∃ k', k = k' + 1 := ⟨k - 1, by omega⟩
    have hlt : ¬ (i < xs.length) := by rw [hsp, hi]; simp [strs]
    refine roundsA_out ?_ (by simp [slTabV])
    simp [b1026_0, st1026, hlt, slTabV, rowsSV]
  | cons c rest ih =>
    intro pre acc i k hsp hi ha hr hk
    obtain ⟨k, rfl⟩ : ∃ k', k = k' + 1 := ⟨k - 1, by omega⟩
    have hlt : i < xs.length := by rw [hsp, hi]; simp [strs]
    have hc : ∀ h : i < xs.length, xs[i]'h = .str c := by subst hi; subst hsp; simp [strs]
    have hst := step1026 E cf m h52 h77 s xs acc (by omega) i hlt (by omega) c (hr c (by simp)) hc
    simp only [slTabV]
    cases hv : slLineV (fieldsL c) with
    | none =>
      rw [hv] at hst
      exact roundsA_out hst (by simp)
    | some r =>
      rw [hv] at hst
      rw [roundsA_step hst, ih (pre ++ [.str c]) (acc ++ [r.sv]) (i + 1) k (by rw [hsp]; simp [strs]) (by simp [hi]) (by simp [ha]) (fun x hx => hr x (by simp [hx])) (by simp at hk; omega)]
      cases slTabV rest with
      | none => rfl
      | some rs => simp [rowsSV]

theorem slLineV_fit {f : List (List UInt8)} {r : RowD} {B : Nat} (hB : B < 2147483648) (h : slLineV f = some r) (hf : ∀ x ∈ f, x.length ≤ B) : r.fits3 := by
  unfold slLineV at h
  split at h <;> try (simp at h; done)
  rename_i g0 g1 g2 g3 g4 g5 g6 g7 g8 g9 g10 g11 g12 g13 g14 g15
  split at h <;> simp only [Option.some.injEq, reduceCtorEq] at h
  rename_i ns hd
  subst h
  obtain ⟨h1, h2⟩ := decsV_fit hd
  have h0 := hf g0 (by simp)
  refine ⟨by simp only; omega, by simp only; rw [h1]; simp, h2, by simp, by simp⟩

theorem slTabV_fit {B : Nat} (hB : B < 2147483648) : ∀ {ls : List (List UInt8)} {rs : List RowD}, slTabV ls = some rs → (∀ s ∈ ls, s.length ≤ B) → rs.length = ls.length ∧ ∀ r ∈ rs, r.fits3
  | [], rs, h, _ => by simp only [slTabV, Option.some.injEq] at h; subst h; simp
  | s :: ls, rs, h, hl => by
    simp only [slTabV] at h
    cases hv : slLineV (fieldsL s) with
    | none => rw [hv] at h; simp at h
    | some r =>
      rw [hv] at h
      cases ht : slTabV ls with
      | none => rw [ht] at h; simp at h
      | some q =>
        rw [ht] at h
        simp only [Option.some.injEq] at h
        subst h
        obtain ⟨i1, i2⟩ := slTabV_fit hB ht (fun s hs => hl s (by simp [hs]))
        have hs := hl s (by simp)
        have hr := slLineV_fit hB hv (fun x hx => by
          obtain ⟨_, _, k2⟩ := fieldsV_shape s
          have := k2 x hx; omega)
        refine ⟨by simp [i1], fun q' hq => ?_⟩
        rcases List.mem_cons.1 hq with rfl | hq
        · exact hr
        · exact i2 q' hq

open Classical in
def S31s (F : List SV → Option AV) : Prop := ∀ (s : List UInt8) (l : List RowD), s.length ≤ 40000 → rowsFit3 l → F [.str s, .sl (rowsSV l), .bool true, .fn 23 [] [], .bool false] = some (.sv (.tup (if s.all plainC = true ∧ l.all slOk = true ∧ slText l = s then [.sl (rowsSV l), .bool true, .int .i64 1] else [.sl [], .bool false, .int .i64 2])))

theorem ev31s (E : Env) (h : E.code 67 = some c31) (h78 : E.pure 98 = some F78) (h23 : Has E 23 SlPrint) : S31s (autoF E 67) := by
  obtain ⟨FP, hpP, hP⟩ := h23
  intro s l hs hf
  have hP1 := hP l hf
  refine autoF_sv (n := 1) ?_ rfl
  cases hok : l.all slOk with
  | true =>
    rw [if_pos hok] at hP1
    have := ev31 E h h78 23 FP hpP s (by omega) (rowsSV l) true (slText l) 1 hP1 1
    rw [this]
    simp
  | false =>
    rw [if_neg (by simp [hok])] at hP1
    have := ev31 E h h78 23 FP hpP s (by omega) (rowsSV l) true [] 2 hP1 1
    rw [this]
    simp

def SlReadS (F : List SV → Option AV) : Prop := ∀ s : List UInt8, s.length ≤ 40000 →
  (∃ rs, rowsFit3 rs ∧ (∀ r ∈ rs, slOk r = true) ∧ s = slText rs ∧ F [.str s] = some (.sv (.tup [.sl (rowsSV rs), .bool true, .int .i64 1]))) ∨ ∃ l, F [.str s] = some (.sv (.tup [.sl l, .bool false, .int .i64 2]))

set_option maxHeartbeats 4000000 in
theorem ev1026 (E : Env) (h : E.code 26 = some c1026) (h28 : E.pure 64 = some F28) (h52 : E.pure 65 = some F52) (h77 : E.pure 66 = some F77) (h31 : Has E 67 S31s) : SlReadS (autoF E 26) := by
  obtain ⟨FM, hpM, hM⟩ := h31
  intro s hs
  have e28 := F28_eq s (by omega)
  obtain ⟨_, k1, k2⟩ := linesV_shape s
  have hsl : (strs (linesL s)).length = (linesL s).length := strs_length _
  by_cases hl2 : (linesL s).length < 2
  · right
    refine ⟨[], ?_⟩
    refine autoA_sv (n := 1) ?_ rfl
    unfold evPA
    simp only [h]
    have hb : ((linesL s).length : Int) < 2 := by omega
    generalize strs (linesL s) = ls at *
    simp [c1026, h28, e28, hsl, hb]
  have hb : ¬ ((linesL s).length : Int) < 2 := by omega
  have hge : 2 ≤ (linesL s).length := by omega
  have hgeI : (2 : Int) ≤ ((linesL s).length : Int) := by omega
  have hdrop : (strs (linesL s)).drop 2 = strs ((linesL s).drop 2) := by simp [strs]
  have hdl : ((linesL s).drop 2).length ≤ s.length := by rw [List.length_drop]; omega
  have hdm : ∀ x ∈ (linesL s).drop 2, x.length ≤ 40000 := fun x hx => by have := k2 x (List.mem_of_mem_drop hx); omega
  have hlp := loop1026 E (evF E (s.length + 2)) (s.length + 2) h52 h77 s (strs ((linesL s).drop 2)) (by rw [strs_length]; omega) ((linesL s).drop 2) [] [] 0 (s.length + 2) rfl rfl rfl (fun x hx => by have := hdm x hx; omega) (by omega)
  rw [← hdrop] at hlp
  have hfit := @slTabV_fit 40000 (by omega) ((linesL s).drop 2)
  have hel : ∀ x ∈ strs (linesL s), (SV.cells x).length = 1 := fun x hx => by
    unfold strs at hx
    obtain ⟨c, _, rfl⟩ := List.mem_map.1 hx
    rfl
  generalize (linesL s).drop 2 = ds at *
  generalize linesL s = ll at *
  generalize strs ll = ls at *
  simp only [SV.cells] at hel
  have helT := eq_true hel
  have htk : ls.take ll.length = ls := by rw [← hsl]; exact List.take_length
  simp only [st1026, accA, List.nil_append, List.length_drop, hsl] at hlp
  have hcast : ((0 : Nat) : Int) = 0 := rfl
  rw [hcast] at hlp
  cases hv : slTabV ds with
  | none =>
    right
    refine ⟨[], ?_⟩
    rw [hv] at hlp
    simp only [bad1026] at hlp
    refine autoA_sv (n := s.length + 2) ?_ rfl
    unfold evPA
    simp only [h]
    simp [c1026, h28, e28, hsl, hb, hge, hgeI, helT, htk, hlp]
  | some rs =>
    rw [hv] at hlp
    simp only at hlp
    obtain ⟨f1, f2⟩ := hfit hv hdm
    have hf3 : rowsFit3 rs := ⟨by omega, f2⟩
    have hM1 := hM s rs hs hf3
    have key : ∀ R : List SV, FM [.str s, .sl (rowsSV rs), .bool true, .fn 23 [] [], .bool false] = some (.sv (.tup R)) → (∃ x b v, R = [.sl x, .bool b, .int .i64 v]) → autoF E 26 [.str s] = some (.sv (.tup R)) := by
      intro R hR hx
      obtain ⟨x, y, z, rfl⟩ := hx
      refine autoA_sv (n := s.length + 2) ?_ rfl
      unfold evPA
      simp only [h]
      clear hM1 hM
      generalize rowsSV rs = rv at *
      cases rv with
      | nil =>
        simp only at hlp
        simp [c1026, h28, e28, hsl, hb, hge, hgeI, helT, htk, hlp, hpM, hR]
      | cons y ys =>
        simp only at hlp
        simp [c1026, h28, e28, hsl, hb, hge, hgeI, helT, htk, hlp, hpM, hR]
    by_cases hc : s.all plainC = true ∧ rs.all slOk = true ∧ slText rs = s
    · left
      rw [if_pos hc] at hM1
      exact ⟨rs, hf3, List.all_eq_true.1 hc.2.1, hc.2.2.symm, key _ hM1 ⟨_, _, _, rfl⟩⟩
    · right
      rw [if_neg hc] at hM1
      exact ⟨[], key _ hM1 ⟨_, _, _, rfl⟩⟩

end Go.Ev
