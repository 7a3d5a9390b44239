/- NFS: the server: the reference's reading and tree. -/
/- NFS: the server: the reference's tree. -/
import Derived.Test.YtcjebcenbimcgaaGreatDoorGbc
import Derived.Test.YtcjebcenbimcgaaGreatDoorGap
import Derived.Test.YtcjebcenbimcgaaGreatDoorGbb
set_option linter.unusedSimpArgs false
set_option linter.unusedVariables false
namespace Go.Ev
open Go.Proofs
def nfLine (f : List (List UInt8)) : Option RowD := match f with
  | g0 :: g1 :: g => match decsV (if g0 = sTh then ((if isProc g0 = true then g else g1 :: g)).take 2 else (if isProc g0 = true then g else g1 :: g)) with
    | some ns => some ⟨g0, ns, []⟩
    | none => none
  | _ => none
def nfTab : List (List UInt8) → Option (List RowD)
  | [] => some []
  | s :: l => match nfLine (fieldsL s) with
    | some r => match nfTab l with
      | some rs => some (r :: rs)
      | none => none
    | none => none
def bad3095 (bx : List Box) : SA := { nt := 58, tm := [(3, .sv (.bool false)), (2, .sv .nilS)], lz := none, bx := bx, df := [] }
def st3095 (xs acc : List SV) (i : Nat) (bx : List Box) : SA := { nt := 58, tm := [(15, .sv (.int .i64 i)), (14, .sv (.int .i64 xs.length)), (13, .sv (.sl xs)), (4, accA 53 acc)], lz := none, bx := bx, df := [] }
theorem snoc_setW (B : List Box) (x y : Box) : (B ++ [x]).set B.length y = B ++ [y] := by
  rw [List.set_append_right _ _ (Nat.le_refl _), Nat.sub_self]; rfl
theorem isProc_th {s : List UInt8} (h : isProc s = true) : s ≠ sTh := by
  rintro rfl
  exact absurd h (by decide)
set_option maxRecDepth 100000 in
set_option maxHeartbeats 16000000 in
theorem core3095 (E : Env) (cf : CallF) (m : Nat) (h52 : E.pure 79 = some F52) (h30 : E.pure 43 = some F30) (h77 : E.pure 106 = some F77) (xs acc : List SV) (ha : acc.length < 1000000) (i : Nat) (hlt : i < xs.length) (hxl : xs.length < 1000000) (c : List UInt8) (hc : ∀ h : i < xs.length, xs[i]'h = .str c) (bx : List Box)
    (g0 g1 : List UInt8) (g : List (List UInt8)) (hgl : g.length < 1000000) (hF : F52 [.str c] = some (.sv (.sl (.str g0 :: .str g1 :: strs g)))) (l2 : List (List UInt8)) (hl2 : l2 = (if g0 = sTh then ((if isProc g0 = true then g else g1 :: g)).take 2 else (if isProc g0 = true then g else g1 :: g)))
    (R : List SV) (ok : Bool) (h7 : F77 [.sl (strs l2)] = some (.sv (.tup [.sl R, .bool ok]))) (hR : ok = false → R = []) :
    ∃ bx', evCA E cf m b3095_0 (st3095 xs acc i bx) = if ok = true then some (.normal, st3095 xs (acc ++ [.agg [.str g0, .sl R, .sl []]]) (i + 1) bx') else some (.ret, bad3095 bx') := by
  have hw : IntKind.i64.wrap ((i : Int) + 1) = ((i + 1 : Nat) : Int) := by rw [IntKind.wrap_i64]; omega
  have hb1 : (acc.length + 1) * 64 ≤ 140737488355328 := by omega
  have hb2 : acc.length + 1 ≤ 140737488355328 := by omega
  have e30 : F30 [.str g0, .str [112, 114, 111, 99]] = some (.sv (.bool (isProc g0))) := rfl
  have hgs : (strs g).length = g.length := strs_length g
  have hu : (∀ x : SV, x ∈ strs g → x.cells.length = 1) = True := eq_true (fun x hx => by
    obtain ⟨y, _, rfl⟩ := List.mem_map.1 hx
    rfl)
  have htk : (strs g).take g.length = strs g := List.take_of_length_le (Nat.le_of_eq hgs)
  simp only [SV.cells] at hu
  have a1 : ¬ ((g.length : Int) + 1 + 1 < 2) := by omega
  have a2 : (0 : Int) ≤ (g.length : Int) + 1 + 1 := by omega
  have a3 : (1 : Int) ≤ (g.length : Int) + 1 + 1 := by omega
  have a4 : (0 : Int) ≤ (g.length : Int) + 1 := by omega
  have a5 : (1 : Int) ≤ (g.length : Int) + 1 := by omega
  have c1 : 1 ≤ g.length + 1 + 1 := by omega
  have c2 : 1 ≤ g.length + 1 := by omega
  by_cases hpr : isProc g0 = true
  · have hth := isProc_th hpr
    rw [if_neg hth, if_pos hpr] at hl2
    rw [hpr] at e30
    have hthb : (g0 == [116, 104]) = false := by simpa [sTh] using hth
    have hthn : ¬ g0 = [116, 104] := hth
    have hl3 : g = l2 := hl2.symm
    clear hl2
    subst hl3
    have m2 : max ((g.length : Int) + 1 + 1) 0 = (g.length : Int) + 1 + 1 := by omega
    have m1 : max ((g.length : Int) + 1) 0 = (g.length : Int) + 1 := by omega
    have t2 : ((g.length : Int) + 1 + 1).toNat = g.length + 1 + 1 := by omega
    have t1 : ((g.length : Int) + 1).toNat = g.length + 1 := by omega
    have p0 : (0 : Int) < (g.length : Int) + 1 + 1 := by omega
    have p1 : (0 : Int) < (g.length : Int) + 1 := by omega
    refine ⟨bx ++ [.live [.sv (.str g0), .sv (if ok then .sl R else .nilS), .sv .nilS]], ?_⟩
    generalize strs g = G at *
    cases ok with
    | false => simp [st3095, bad3095, b3095_0, hlt, hc, h52, hF, hgs, hu, htk, m2, m1, t2, t1, p0, p1, a1, a2, a3, a4, a5, c1, c2, h30, e30, hthb, hthn, h77, h7, snoc_setW]
    | true =>
      cases acc with
      | nil => simp [st3095, b3095_0, hlt, hc, h52, hF, hgs, hu, htk, m2, m1, t2, t1, p0, p1, a1, a2, a3, a4, a5, c1, c2, h30, e30, hthb, hthn, h77, h7, snoc_setW, hw, accA]
      | cons y ys =>
        simp only [List.length_cons] at hb1 hb2
        simp [st3095, b3095_0, hlt, hc, h52, hF, hgs, hu, htk, m2, m1, t2, t1, p0, p1, a1, a2, a3, a4, a5, c1, c2, h30, e30, hthb, hthn, h77, h7, snoc_setW, hw, accA, hb1, hb2]
  have hpr' : isProc g0 = false := by simpa using hpr
  rw [hpr'] at e30
  by_cases hth : g0 = sTh
  · rw [if_pos hth, if_neg hpr] at hl2
    have hthn : g0 = [116, 104] := hth
    clear hth hpr
    subst hthn
    have hsm : ∃ l3, l2 = g1 :: l3 ∧ l3.length ≤ 1 ∧ ((g.length = 0 ∧ l3 = []) ∨ (∃ g2 g', g = g2 :: g' ∧ l3 = [g2])) := by
      subst hl2
      cases g with
      | nil => exact ⟨[], rfl, by simp, .inl ⟨rfl, rfl⟩⟩
      | cons g2 g' => exact ⟨[g2], rfl, by simp, .inr ⟨g2, g', rfl, rfl⟩⟩
    obtain ⟨l3, rfl, _, hcs⟩ := hsm
    refine ⟨bx ++ [.live [.sv (.str [116, 104]), .sv (if ok then .sl R else .nilS), .sv .nilS]], ?_⟩
    clear hl2
    rcases hcs with ⟨hg0, rfl⟩ | ⟨g2, g', rfl, rfl⟩
    · obtain rfl := List.eq_nil_of_length_eq_zero hg0
      simp only [strs, List.map_cons, List.map_nil] at hF h7
      cases ok with
      | false => simp [st3095, bad3095, b3095_0, hlt, hc, h52, hF, h30, e30, h77, h7, snoc_setW]
      | true =>
        cases acc with
        | nil => simp [st3095, b3095_0, hlt, hc, h52, hF, h30, e30, h77, h7, snoc_setW, hw, accA]
        | cons y ys =>
          simp only [List.length_cons] at hb1 hb2
          simp [st3095, b3095_0, hlt, hc, h52, hF, h30, e30, h77, h7, snoc_setW, hw, accA, hb1, hb2]
    · simp only [strs, List.map_cons, List.map_nil] at hF h7
      rw [show g'.map SV.str = strs g' from rfl] at hF
      have hgs' : (strs g').length = g'.length := strs_length g'
      have hu' : (∀ x : SV, x ∈ strs g' → x.cells.length = 1) = True := eq_true (fun x hx => by
        obtain ⟨y, _, rfl⟩ := List.mem_map.1 hx
        rfl)
      have htk' : (strs g').take g'.length = strs g' := List.take_of_length_le (Nat.le_of_eq hgs')
      simp only [SV.cells] at hu'
      simp only [List.length_cons] at hgl
      have p0 : (0 : Int) < (g'.length : Int) + 1 + 1 + 1 := by omega
      have p1 : (0 : Int) < (g'.length : Int) + 1 + 1 := by omega
      have m3 : max ((g'.length : Int) + 1 + 1 + 1) 0 = (g'.length : Int) + 1 + 1 + 1 := by omega
      have m2 : max ((g'.length : Int) + 1 + 1) 0 = (g'.length : Int) + 1 + 1 := by omega
      have t3 : ((g'.length : Int) + 1 + 1 + 1).toNat = g'.length + 1 + 1 + 1 := by omega
      have t2 : ((g'.length : Int) + 1 + 1).toNat = g'.length + 1 + 1 := by omega
      have d1 : ¬ ((g'.length : Int) + 1 + 1 + 1 < 2) := by omega
      have d2 : (0 : Int) ≤ (g'.length : Int) + 1 + 1 + 1 := by omega
      have d3 : (1 : Int) ≤ (g'.length : Int) + 1 + 1 + 1 := by omega
      have d4 : ¬ ((g'.length : Int) + 1 + 1 < 2) := by omega
      have d5 : (2 : Int) ≤ (g'.length : Int) + 1 + 1 := by omega
      have d6 : 1 ≤ g'.length + 1 + 1 + 1 := by omega
      have d7 : 2 ≤ g'.length + 1 + 1 := by omega
      clear hgs hu htk
      generalize strs g' = G at *
      cases ok with
      | false => simp [st3095, bad3095, b3095_0, hlt, hc, h52, hF, hgs', hu', htk', m3, m2, t3, t2, p0, p1, d1, d2, d3, d4, d5, d6, d7, h30, e30, h77, h7, snoc_setW]
      | true =>
        cases acc with
        | nil => simp [st3095, b3095_0, hlt, hc, h52, hF, hgs', hu', htk', m3, m2, t3, t2, p0, p1, d1, d2, d3, d4, d5, d6, d7, h30, e30, h77, h7, snoc_setW, hw, accA]
        | cons y ys =>
          simp only [List.length_cons] at hb1 hb2
          simp [st3095, b3095_0, hlt, hc, h52, hF, hgs', hu', htk', m3, m2, t3, t2, p0, p1, d1, d2, d3, d4, d5, d6, d7, h30, e30, h77, h7, snoc_setW, hw, accA, hb1, hb2]
  · rw [if_neg hth, if_neg hpr] at hl2
    have hthb : (g0 == [116, 104]) = false := by simpa [sTh] using hth
    have hthn : ¬ g0 = [116, 104] := hth
    subst hl2
    have m2 : max ((g.length : Int) + 1 + 1) 0 = (g.length : Int) + 1 + 1 := by omega
    have m1 : max ((g.length : Int) + 1) 0 = (g.length : Int) + 1 := by omega
    have t2 : ((g.length : Int) + 1 + 1).toNat = g.length + 1 + 1 := by omega
    have t1 : ((g.length : Int) + 1).toNat = g.length + 1 := by omega
    have p0 : (0 : Int) < (g.length : Int) + 1 + 1 := by omega
    have p1 : (0 : Int) < (g.length : Int) + 1 := by omega
    simp only [strs, List.map_cons] at h7
    rw [show g.map SV.str = strs g from rfl] at h7
    refine ⟨bx ++ [.live [.sv (.str g0), .sv (if ok then .sl R else .nilS), .sv .nilS]], ?_⟩
    generalize strs g = G at *
    cases ok with
    | false => simp [st3095, bad3095, b3095_0, hlt, hc, h52, hF, hgs, hu, htk, m2, m1, t2, t1, p0, p1, a1, a2, a3, a4, a5, c1, c2, h30, e30, hthb, hthn, h77, h7, snoc_setW]
    | true =>
      cases acc with
      | nil => simp [st3095, b3095_0, hlt, hc, h52, hF, hgs, hu, htk, m2, m1, t2, t1, p0, p1, a1, a2, a3, a4, a5, c1, c2, h30, e30, hthb, hthn, h77, h7, snoc_setW, hw, accA]
      | cons y ys =>
        simp only [List.length_cons] at hb1 hb2
        simp [st3095, b3095_0, hlt, hc, h52, hF, hgs, hu, htk, m2, m1, t2, t1, p0, p1, a1, a2, a3, a4, a5, c1, c2, h30, e30, hthb, hthn, h77, h7, snoc_setW, hw, accA, hb1, hb2]
theorem step3095 (E : Env) (cf : CallF) (m : Nat) (h52 : E.pure 79 = some F52) (h30 : E.pure 43 = some F30) (h77 : E.pure 106 = some F77) (xs acc : List SV) (ha : acc.length < 1000000) (i : Nat) (hlt : i < xs.length) (hxl : xs.length < 1000000) (c : List UInt8) (hcl : c.length < 100000) (hc : ∀ h : i < xs.length, xs[i]'h = .str c) (bx : List Box) :
    ∃ bx', evCA E cf m b3095_0 (st3095 xs acc i bx) = match nfLine (fieldsL c) with
      | some r => some (.normal, st3095 xs (acc ++ [r.sv]) (i + 1) bx')
      | none => some (.ret, bad3095 bx') := by
  have hF := F52_eq c (by omega)
  obtain ⟨_, hsh1, hsh2⟩ := fieldsV_shape c
  match hfl : fieldsL c with
  | [] =>
    rw [hfl] at hF
    simp only [strs, List.map_nil] at hF
    exact ⟨bx, by simp [nfLine, st3095, bad3095, b3095_0, hlt, hc, h52, hF]⟩
  | [x] =>
    rw [hfl] at hF
    simp only [strs, List.map_nil, List.map_cons] at hF
    exact ⟨bx, by simp [nfLine, st3095, bad3095, b3095_0, hlt, hc, h52, hF]⟩
  | g0 :: g1 :: g =>
    rw [hfl] at hF hsh1 hsh2
    simp only [strs, List.map_cons] at hF
    rw [show g.map SV.str = strs g from rfl] at hF
    simp only [List.length_cons] at hsh1
    obtain ⟨l2, hl2⟩ : ∃ l2, l2 = (if g0 = sTh then ((if isProc g0 = true then g else g1 :: g)).take 2 else (if isProc g0 = true then g else g1 :: g)) := ⟨_, rfl⟩
    have hsub : l2.length < 1000000 ∧ ∀ x ∈ l2, x ∈ g1 :: g := by
      have h1 : ∀ l : List (List UInt8), l = (if isProc g0 = true then g else g1 :: g) → l.length ≤ g.length + 1 ∧ ∀ x ∈ l, x ∈ g1 :: g := by
        intro l hl
        subst hl
        split
        · exact ⟨by omega, fun x hx => List.mem_cons_of_mem _ hx⟩
        · exact ⟨by simp, fun x hx => hx⟩
      subst hl2
      obtain ⟨k1, k2⟩ := h1 _ rfl
      split
      · exact ⟨by rw [List.length_take]; omega, fun x hx => k2 x (List.mem_of_mem_take hx)⟩
      · exact ⟨by omega, k2⟩
    have h7 := F77_eq l2 (by omega) (fun s hs => by have := hsh2 s (List.mem_cons_of_mem _ (hsub.2 s hs)); omega)
    unfold nfLine
    simp only
    rw [← hl2]
    cases hd : decsV l2 with
    | none =>
      rw [hd] at h7
      obtain ⟨bx', he⟩ := core3095 E cf m h52 h30 h77 xs acc ha i hlt hxl c hc bx g0 g1 g (by omega) hF l2 hl2 [] false h7 (fun _ => rfl)
      exact ⟨bx', by rw [he]; rfl⟩
    | some ns =>
      rw [hd] at h7
      obtain ⟨bx', he⟩ := core3095 E cf m h52 h30 h77 xs acc ha i hlt hxl c hc bx g0 g1 g (by omega) hF l2 hl2 (u64s ns) true h7 (fun h => by cases h)
      exact ⟨bx', by rw [he]; rfl⟩
theorem loop3095 (E : Env) (cf : CallF) (m : Nat) (h52 : E.pure 79 = some F52) (h30 : E.pure 43 = some F30) (h77 : E.pure 106 = some F77) (xs : List SV) (hxl : xs.length < 1000000) :
    ∀ (rest : List (List UInt8)) (pre acc : List SV) (i k : Nat) (bx : List Box), xs = pre ++ strs rest → i = pre.length → acc.length = i → (∀ x ∈ rest, x.length < 100000) → rest.length < k →
      ∃ bx', roundsA (evCA E cf m b3095_0) k (st3095 xs acc i bx) =
        match nfTab rest with
        | some rs => some (.exit 0, { nt := 58, tm := [(4, accA 53 (acc ++ rowsSV rs))], lz := none, bx := bx', df := [] })
        | none => some (.ret, bad3095 bx') := by
  intro rest
  induction rest with
  | nil =>
    intro pre acc i k bx hsp hi _ _ hk
    obtain ⟨k, rfl⟩ : ∃ k', k = k' + 1 := ⟨k - 1, by omega⟩
    have hlt : ¬ (i < xs.length) := by rw [hsp, hi]; simp [strs]
    refine ⟨bx, roundsA_out ?_ (by simp [nfTab])⟩
    simp [b3095_0, st3095, hlt, nfTab, rowsSV]
  | cons c rest ih =>
    intro pre acc i k bx hsp hi ha hr hk
    obtain ⟨k, rfl⟩ : ∃ k', k = k' + 1 := ⟨k - 1, by omega⟩
    have hlt : i < xs.length := by rw [hsp, hi]; simp [strs]
    have hc : ∀ h : i < xs.length, xs[i]'h = .str c := by subst hi; subst hsp; simp [strs]
    obtain ⟨bx1, hst⟩ := step3095 E cf m h52 h30 h77 xs acc (by omega) i hlt (by omega) c (hr c (by simp)) hc bx
    simp only [nfTab]
    cases hv : nfLine (fieldsL c) with
    | none =>
      rw [hv] at hst
      exact ⟨bx1, roundsA_out hst (by simp)⟩
    | some r =>
      rw [hv] at hst
      obtain ⟨bx', he⟩ := ih (pre ++ [.str c]) (acc ++ [r.sv]) (i + 1) k bx1 (by rw [hsp]; simp [strs]) (by simp [hi]) (by simp [ha]) (fun x hx => hr x (by simp [hx])) (by simp at hk; omega)
      refine ⟨bx', ?_⟩
      rw [roundsA_step hst, he]
      cases nfTab rest with
      | none => rfl
      | some rs => simp [rowsSV]
theorem nfLine_fit {f : List (List UInt8)} {r : RowD} {B : Nat} (hB : B < 1000000) (h : nfLine f = some r) (hl : f.length ≤ B) (hf : ∀ x ∈ f, x.length ≤ B) : r.fits3 := by
  unfold nfLine at h
  split at h <;> try (cases h; done)
  rename_i g0 g1 g
  split at h <;> try (cases h; done)
  rename_i ns hd
  simp only [Option.some.injEq] at h
  subst h
  obtain ⟨k1, k2⟩ := decsV_fit hd
  have h0 := hf g0 (by simp)
  simp only [List.length_cons] at hl
  refine ⟨by simp only; omega, ?_, k2, by simp, by simp⟩
  simp only
  rw [k1]
  split <;> split <;> (try rw [List.length_take]) <;> (try simp only [List.length_cons]) <;> omega
theorem nfTab_fit {B : Nat} (hB : B < 1000000) : ∀ {ls : List (List UInt8)} {rs : List RowD}, nfTab ls = some rs → (∀ s ∈ ls, s.length < B) → rs.length = ls.length ∧ ∀ r ∈ rs, r.fits3
  | [], rs, h, _ => by simp only [nfTab, Option.some.injEq] at h; subst h; simp
  | s :: ls, rs, h, hl => by
    simp only [nfTab] at h
    cases hv : nfLine (fieldsL s) with
    | none => rw [hv] at h; cases h
    | some r =>
      rw [hv] at h
      cases ht : nfTab ls with
      | none => rw [ht] at h; cases h
      | some q =>
        rw [ht] at h
        simp only [Option.some.injEq] at h
        subst h
        obtain ⟨i1, i2⟩ := nfTab_fit hB ht (fun x hx => hl x (by simp [hx]))
        obtain ⟨_, s1, s2⟩ := fieldsV_shape s
        have hs := hl s (by simp)
        refine ⟨by simp [i1], fun q' hq => ?_⟩
        rcases List.mem_cons.1 hq with rfl | hq
        · exact nfLine_fit hB hv (by omega) (fun x hx => by have := s2 x hx; omega)
        · exact i2 q' hq
def S3095 (F : List SV → Option AV) : Prop := ∀ s : List UInt8, s.length ≤ 40000 → F [.str s] = some (.sv (.tup (match nfTab (linesL s) with | some rs => [.sl (rowsSV rs), .bool true] | none => [.sl [], .bool false])))
theorem ev3095 (E : Env) (h : E.code 95 = some c3095) (h28 : E.pure 41 = some F28) (h52 : E.pure 79 = some F52) (h30 : E.pure 43 = some F30) (h77 : E.pure 106 = some F77) : S3095 (autoF E 95) := by
  intro s hs
  have e28 := F28_eq s (by omega)
  obtain ⟨_, k1, k2⟩ := linesV_shape s
  obtain ⟨bx', he⟩ := loop3095 E (evF E (s.length + 3)) (s.length + 3) h52 h30 h77 (strs (linesL s)) (by rw [strs_length]; omega) (linesL s) [] [] 0 (s.length + 3) [] rfl rfl rfl (fun x hx => by have := k2 x hx; omega) (by omega)
  refine autoA_sv (n := s.length + 3) ?_ (by split <;> rfl)
  unfold evPA
  simp only [h]
  generalize linesL s = ls at *
  simp only [st3095, accA, List.nil_append, Int.ofNat_zero, Int.natCast_zero, bad3095] at he
  generalize strs ls = X at *
  cases hv : nfTab ls with
  | none => rw [hv] at he; simp only at he; simp [c3095, h28, e28, he]
  | some rs =>
    rw [hv] at he
    simp only at he ⊢
    generalize rowsSV rs = R at *
    cases R with
    | nil => simp only [accA] at he; simp [c3095, h28, e28, he]
    | cons y ys => simp only [accA] at he; simp [c3095, h28, e28, he]
theorem nfSrv_small : nfSrv.length < 1000 ∧ ∀ g ∈ nfSrv, g.fields.length < 1000 := by decide
def srvOk (rs : List RowD) : Bool := nfOk nfSrv rs
def srvRd (s : List UInt8) (rs : List RowD) : Prop := srvOk rs = true ∧ nfText rs = s
def S3034 (F : List SV → Option AV) : Prop := SPrintG srvOk nfText F
theorem ev3034 (E : Env) (h : E.code 34 = some c3034) (h96 : Has E 96 S3096) (h84 : Has E 84 S3084) (h86 : Has E 86 S3086) : S3034 (autoF E 34) := by
  obtain ⟨F1, p1, e1⟩ := h96
  obtain ⟨F2, p2, s2⟩ := h84
  obtain ⟨F3, p3, s3⟩ := h86
  intro l hl
  have e2 := s2 nfSrv l nfSrv_small.1 nfSrv_small.2 hl
  unfold S3096 at e1
  unfold srvOk
  refine autoA_sv (n := 1) ?_ (by split <;> rfl)
  unfold evPA
  simp only [h]
  cases hv : nfOk nfSrv l with
  | false =>
    rw [hv] at e2
    generalize rowsSV l = R at *
    generalize grpsSV nfSrv = G at *
    simp [c3034, p1, e1, p2, e2]
  | true =>
    rw [hv] at e2
    have hlen := nfOk_len hv
    have e3 := s3 l (by have : nfSrv.length = 11 := rfl; omega) hl.2
    generalize rowsSV l = R at *
    generalize grpsSV nfSrv = G at *
    generalize nfText l = T at *
    simp [c3034, p1, e1, p2, e2, p3, e3]
theorem ev31G (E : Env) (h : E.code 44 = some c31) (h78 : E.pure 78 = some F78) (P : Nat) (F : List SV → Option AV) (hP : E.pure P = some F) (text : List UInt8) (hs : text.length < 9223372036854775807) (rows : List SV) (ok : Bool) (out : List UInt8) (told : Int)
    (hF : F [.sl rows] = some (.sv (.tup [.str out, .int .i64 told]))) (n : Nat) :
    evP E n 44 [.str text, .sl rows, .bool ok, .fn P [] [], .bool false] = some (.sv (.tup (if ok = true ∧ text.all plainC = true ∧ told = 1 ∧ out = text then [.sl rows, .bool true, .int .i64 1] else [.sl [], .bool false, .int .i64 2]))) := by
  unfold evP
  simp only [h]
  have hF78 := F78_eq text hs
  cases ok with
  | false => simp [c31, List.replicate]
  | true =>
    cases hp : text.all plainC with
    | false => rw [hp] at hF78; simp [c31, List.replicate, h78, hF78]
    | true =>
      rw [hp] at hF78
      by_cases h1 : told = 1
      · subst h1
        by_cases h2 : out = text
        · subst h2
          simp [c31, List.replicate, h78, hF78, hP, hF]
        · have h2b : (out != text) = true := by simpa using h2
          have h2c : (out == text) = false := by simpa using h2
          simp [c31, List.replicate, h78, hF78, hP, hF, h2, h2b, h2c]
      · have h1b : (told != 1) = true := by simpa using h1
        simp [c31, List.replicate, h78, hF78, hP, hF, h1, h1b]
def S31s (F : List SV → Option AV) : Prop := ∀ (s : List UInt8) (l : List RowD) (ok : Bool), s.length < 1000000000 → rowsFit3 l →
  F [.str s, .sl (rowsSV l), .bool ok, .fn 34 [] [], .bool false] = some (.sv (.tup (if ok = true ∧ s.all plainC = true ∧ srvOk l = true ∧ nfText l = s then [.sl (rowsSV l), .bool true, .int .i64 1] else [.sl [], .bool false, .int .i64 2])))
theorem ev31s (E : Env) (h : E.code 44 = some c31) (h78 : E.pure 78 = some F78) (h15 : Has E 34 S3034) : S31s (autoF E 44) := by
  obtain ⟨F, hp, hF⟩ := h15
  intro s l ok hs hl
  have hFl := hF l hl
  refine autoF_sv (n := 1) ?_ (by split <;> rfl)
  cases hb : srvOk l with
  | true =>
    rw [if_pos hb] at hFl
    rw [ev31G E h h78 34 F hp s (by omega) (rowsSV l) ok (nfText l) 1 hFl 1]
    simp
  | false =>
    rw [if_neg (by simp [hb])] at hFl
    rw [ev31G E h h78 34 F hp s (by omega) (rowsSV l) ok [] 2 hFl 1]
    simp
def S3037 (F : List SV → Option AV) : Prop := SReadG srvRd srvOk F
theorem ev3037 (E : Env) (h : E.code 37 = some c3037) (h95 : Has E 95 S3095) (h31 : Has E 44 S31s) : S3037 (autoF E 37) := by
  obtain ⟨FR, pR, sR⟩ := h95
  obtain ⟨FM, pM, sM⟩ := h31
  intro s hs
  have eR := sR s hs
  obtain ⟨_, k1, k2⟩ := linesV_shape s
  cases hv : nfTab (linesL s) with
  | none =>
    rw [hv] at eR
    have eM := sM s [] false (by omega) ⟨by simp, by simp⟩
    rw [if_neg (by simp)] at eM
    right
    refine ⟨[], false, autoA_sv (n := 1) ?_ rfl⟩
    unfold evPA
    simp only [h]
    simp only [rowsSV, List.map_nil] at eM
    simp [c3037, pR, eR, pM, eM]
  | some rs =>
    rw [hv] at eR
    simp only at eR
    obtain ⟨f1, f2⟩ := nfTab_fit (B := 40001) (by omega) hv (fun x hx => by have := k2 x hx; omega)
    have hfit : rowsFit3 rs := ⟨by omega, f2⟩
    have eM := sM s rs true (by omega) hfit
    by_cases hc : s.all plainC = true ∧ srvOk rs = true ∧ nfText rs = s
    · rw [if_pos ⟨rfl, hc⟩] at eM
      left
      refine ⟨rs, hc.2, hfit, hc.2.1, autoA_sv (n := 1) ?_ rfl⟩
      unfold evPA
      simp only [h]
      clear hv
      generalize rowsSV rs = R at *
      simp [c3037, pR, eR, pM, eM]
    · rw [if_neg (fun hh => hc hh.2)] at eM
      right
      refine ⟨[], false, autoA_sv (n := 1) ?_ rfl⟩
      unfold evPA
      simp only [h]
      clear hv
      generalize rowsSV rs = R at *
      simp [c3037, pR, eR, pM, eM]
end Go.Ev

set_option linter.unusedSimpArgs false
set_option linter.unusedVariables false
namespace Go.Ev
open Go.Proofs
def S51r (F : List SV → Option AV) : Prop := ∀ (nm : List UInt8) (ns : List Nat), ns.length < 100000000 → F [.str nm, .sl (u64s ns)] = some (.sv (nodeV nm 6 false 0 0 0 [] (ns.map uN)))
theorem ev51r (E : Env) (h : E.code 64 = some c51) (h35 : Has E 48 S35o) (h36 : E.pure 49 = some F36) : S51r (autoF E 64) := ev51 E h h35 h36
def srvKid (rs : List RowD) (g : Grp) : SV := if g.label = sRa then raNode g.name ((numsOf rs g.label).getD 0 0) ((numsOf rs g.label).getD 11 0) (((numsOf rs g.label).drop 1).take 10) else fillN g.name g.fields (numsOf rs g.label)
def sWdN : List UInt8 := [87, 100, 101, 108, 101, 103, 71, 101, 116, 97, 116, 116, 114]
def srvTree (rs : List RowD) : SV := nodeV [] 8 false 0 0 0 [] (nfSrv.map (srvKid rs) ++ [uNode sWdN ((numsOf rs sWd).getD 0 0)])
def S3097 (F : List SV → Option AV) : Prop := ∀ (rs : List RowD) (s : List UInt8), rs.length < 100000000 → F [.sl (rowsSV rs), .str s] = some (.sv (.int .u64 (((numsOf rs s).getD 0 0 : Nat) : Int)))
theorem ev3097 (E : Env) (h : E.code 97 = some c3097) (h87 : Has E 87 S3087) : S3097 (autoF E 97) := by
  obtain ⟨F, hp, hF⟩ := h87
  intro rs s hl
  have hF1 := hF rs s hl
  rw [numsOf_row]
  refine autoA_sv (n := 1) ?_ rfl
  unfold evPA
  simp only [h]
  generalize rowsSV rs = R at *
  cases hv : rowOf rs s with
  | none => rw [hv] at hF1; simp only [rCell, Option.isSome_none] at hF1; simp [c3097, hp, hF1]
  | some r =>
    rw [hv] at hF1
    simp only [rCell, RowD.sv, Option.isSome_some] at hF1
    cases hN : r.N with
    | nil => rw [hN] at hF1; simp only [u64s, List.map_nil] at hF1; simp [c3097, hp, hF1, hN]
    | cons n ns =>
      rw [hN] at hF1
      simp only [u64s, List.map_cons] at hF1
      have e0 : ((ns.length : Int) + 1 == 0) = false := by rw [Bool.eq_false_iff]; simp; omega
      have e1 : (0 : Int) < (ns.length : Int) + 1 := by omega
      have e2 : ¬ ((ns.length : Int) + 1 = 0) := by omega
      simp [c3097, hp, hF1, e0, e1, e2, hN]
def cellTame : Cell → Bool
  | .lnk j _ => decide (1 ≤ j)
  | .lrw j _ _ => decide (1 ≤ j)
  | _ => true
def boxTame : Box → Bool
  | .live cs => cs.all cellTame
  | _ => true
def KeepS (s s' : SA) : Prop := s'.nt = s.nt ∧ s'.tm = s.tm ∧ s'.df = s.df ∧ s'.lk = s.lk ∧ s'.bx[0]? = s.bx[0]?
theorem KeepS.refl (s : SA) : KeepS s s := ⟨rfl, rfl, rfl, rfl, rfl⟩
theorem KeepS.trans {a b c : SA} (h : KeepS a b) (g : KeepS b c) : KeepS a c :=
  ⟨g.1.trans h.1, g.2.1.trans h.2.1, g.2.2.1.trans h.2.2.1, g.2.2.2.1.trans h.2.2.2.1, g.2.2.2.2.trans h.2.2.2.2⟩
theorem set_zero {B : List Box} {i : Nat} {x : Box} (h : 1 ≤ i) : (B.set i x)[0]? = B[0]? := List.getElem?_set_ne (by omega)
theorem tidy1A_keep (s : SA) (i off j o : Nat) (hi : 1 ≤ i) (hj : 1 ≤ j) : KeepS s (tidy1A s i off j o) := by
  unfold tidy1A sinkA
  simp only
  cases hb : s.bx[j]? with
  | none => exact KeepS.refl s
  | some b =>
    simp only
    split
    · split
      · split
        · exact ⟨rfl, rfl, rfl, rfl, by simp only; rw [set_zero hi, set_zero hj]⟩
        · exact KeepS.refl s
      · exact KeepS.refl s
    · exact KeepS.refl s
theorem tidyR1A_keep (s : SA) (i off j n k : Nat) (hi : 1 ≤ i) (hj : 1 ≤ j) : KeepS s (tidyR1A s i off j n k) := by
  unfold tidyR1A sinkA
  simp only
  by_cases hk : k = 1
  · simp only [hk, if_true]
    cases hb : s.bx[j]? with
    | none => exact KeepS.refl s
    | some b =>
      simp only
      by_cases hn : b.cells.length = n
      · simp only [hn, if_true]
        split
        · split
          · split
            · exact ⟨rfl, rfl, rfl, rfl, by simp only; rw [set_zero hi, set_zero hj]⟩
            · exact KeepS.refl s
          · exact KeepS.refl s
        · exact KeepS.refl s
      · simp only [hn, if_false]
        exact KeepS.refl s
  · simp only [hk, if_false]
    exact KeepS.refl s
theorem tidyCsA_keep (i : Nat) (hi : 1 ≤ i) : ∀ (cs : List Cell) (off : Nat) (s : SA), cs.all cellTame = true → KeepS s (tidyCsA i off cs s)
  | [], _, s, _ => by unfold tidyCsA; exact KeepS.refl s
  | .lnk j o :: cs, off, s, h => by
    simp only [List.all_cons, Bool.and_eq_true, cellTame, decide_eq_true_eq] at h
    unfold tidyCsA
    exact (tidy1A_keep s i off j o hi h.1).trans (tidyCsA_keep i hi cs _ _ h.2)
  | .lrw j n k :: cs, off, s, h => by
    simp only [List.all_cons, Bool.and_eq_true, cellTame, decide_eq_true_eq] at h
    unfold tidyCsA
    exact (tidyR1A_keep s i off j n k hi h.1).trans (tidyCsA_keep i hi cs _ _ h.2)
  | .sv _ :: cs, off, s, h => by
    simp only [List.all_cons, Bool.and_eq_true] at h
    unfold tidyCsA
    exact tidyCsA_keep i hi cs _ _ h.2
  | .own _ _ :: cs, off, s, h => by
    simp only [List.all_cons, Bool.and_eq_true] at h
    unfold tidyCsA
    exact tidyCsA_keep i hi cs _ _ h.2
theorem tidyBsA_keep : ∀ (bs : List Box) (i : Nat) (hi : 1 ≤ i) (s : SA), bs.all boxTame = true → KeepS s (tidyBsA i bs s)
  | [], _, _, s, _ => by unfold tidyBsA; exact KeepS.refl s
  | .live cs :: bs, i, hi, s, h => by
    simp only [List.all_cons, Bool.and_eq_true, boxTame] at h
    unfold tidyBsA
    exact (tidyCsA_keep i hi cs 0 s h.1).trans (tidyBsA_keep bs (i + 1) (by omega) _ h.2)
  | .frz _ :: bs, i, hi, s, h => by
    simp only [List.all_cons, Bool.and_eq_true] at h
    unfold tidyBsA
    exact tidyBsA_keep bs (i + 1) (by omega) _ h.2
  | .it _ _ :: bs, i, hi, s, h => by
    simp only [List.all_cons, Bool.and_eq_true] at h
    unfold tidyBsA
    exact tidyBsA_keep bs (i + 1) (by omega) _ h.2
theorem fillN_can0 (nm : List UInt8) (fs : List (List UInt8)) (ns : List Nat) : ∀ kk, fillN nm fs ns = .agg kk → kk.map SV.can0 = kk := by
  intro kk h
  unfold fillN nodeV at h
  simp only [SV.agg.injEq] at h
  subst h
  simp [SV.can0]
def st3035 (R G acc : List SV) (i : Nat) (z : Box) (bx : List Box) : SA := { nt := 83, tm := [(16, .sv (.int .i64 i)), (15, .sv (.int .i64 G.length)), (14, .sv (.sl G)), (4, accA 42 acc), (2, .ptr 0 0), (0, .sv (.sl R))], lz := none, bx := z :: bx, df := [], lk := true }
set_option maxRecDepth 100000 in
set_option maxHeartbeats 16000000 in
theorem stepN3035 (E : Env) (cf : CallF) (m : Nat) (F3 F8 : List SV → Option AV) (p3 : E.pure 87 = some F3) (p8 : E.pure 88 = some F8) (R G acc : List SV) (ha : acc.length < 1000) (i : Nat) (hlt : i < G.length) (hgl : G.length < 1000) (lb nm nm2 : List UInt8) (fs ns ss : List SV) (hc : ∀ h : i < G.length, G[i]'h = .agg [.str lb, .str nm, .sl fs]) (b : Bool) (e3 : F3 [.sl R, .str lb] = some (.sv (.tup [.agg [.str nm2, .sl ns, .sl ss], .bool b])))
    (k : SV) (kk : List SV) (hk : k = .agg kk) (hkl : kk.length = 8) (hcan : kk.map SV.can0 = kk) (e8 : F8 [.str nm, .sl fs, .sl ns] = some (.sv k)) (hra : lb ≠ sRa) (z : Box) (bx : List Box) (hT : bx.all boxTame = true) :
    ∃ bx', bx'.all boxTame = true ∧ evCA E cf m b3035_0 (st3035 R G acc i z bx) = some (.normal, st3035 R G (acc ++ [k]) (i + 1) z bx') := by
  subst hk
  have hw : IntKind.i64.wrap ((i : Int) + 1) = ((i + 1 : Nat) : Int) := by rw [IntKind.wrap_i64]; omega
  have hl1 : (acc.length + 1) * 96 ≤ 140737488355328 := by omega
  have hl2 : acc.length + 1 ≤ 140737488355328 := by omega
  have hb1 : ¬ lb = [114, 97] := hra
  have hb2 : (lb == [114, 97]) = false := by simpa using hb1
  have hb3 : (lb != [114, 97]) = true := by simpa using hb1
  refine ⟨bx ++ [.live [.sv (.str lb), .sv (.str nm), .sv (.sl fs)], .live [.sv (.str nm2), .sv (.sl ns), .sv (.sl ss)]], by simp [List.all_append, hT, boxTame, cellTame], ?_⟩
  cases acc with
  | nil => simp [st3035, b3035_0, hlt, hc, p3, e3, hb1, hb2, hb3, p8, e8, hkl, hcan, hw, accA]
  | cons y ys =>
    simp only [List.length_cons] at hl1 hl2
    simp [st3035, b3035_0, hlt, hc, p3, e3, hb1, hb2, hb3, p8, e8, hkl, hcan, hw, accA, hl1, hl2]
set_option maxRecDepth 100000 in
set_option maxHeartbeats 16000000 in
theorem stepO3035 (E : Env) (cf : CallF) (m : Nat) (F3 FU : List SV → Option AV) (p3 : E.pure 87 = some F3) (hpU : E.pure 48 = some FU) (hU : S35o FU) (h33 : E.pure 46 = some F33) (h36 : E.pure 49 = some F36) (R G acc : List SV) (ha : acc.length < 1000) (i : Nat) (hlt : i < G.length) (hgl : G.length < 1000) (nm nm2 : List UInt8) (fs ns ss : List SV) (hc : ∀ h : i < G.length, G[i]'h = .agg [.str sRa, .str nm, .sl fs]) (e3 : F3 [.sl R, .str sRa] = some (.sv (.tup [.agg [.str nm2, .sl ns, .sl ss], .bool false])))
    (z : Box) (bx : List Box) (hT : bx.all boxTame = true) :
    ∃ bx', bx'.all boxTame = true ∧ evCA E cf m b3035_0 (st3035 R G acc i z bx) = some (.normal, st3035 R G (acc ++ [raNode nm 0 0 []]) (i + 1) z bx') := by
  have hw : IntKind.i64.wrap ((i : Int) + 1) = ((i + 1 : Nat) : Int) := by rw [IntKind.wrap_i64]; omega
  have hl1 : (acc.length + 1) * 96 ≤ 140737488355328 := by omega
  have hl2 : acc.length + 1 ≤ 140737488355328 := by omega
  have u1 := hU [67, 97, 99, 104, 101, 83, 105, 122, 101] 0
  have u2 := hU [78, 111, 116, 70, 111, 117, 110, 100] 0
  unfold sRa at *
  unfold raNode uNode
  unfold nodeV at *
  refine ⟨bx ++ [.live [.sv (.str [114, 97]), .sv (.str nm), .sv (.sl fs)], .live [.sv (.str nm2), .lrw (bx.length + 3) 12 1, .sv (.sl ss)], .live (List.replicate 12 (.sv (.int .u64 0)))], by simp [List.all_append, hT, boxTame, cellTame], ?_⟩
  cases acc with
  | nil => simp [st3035, b3035_0, hlt, hc, p3, e3, hpU, u1, u2, h33, F33, h36, F36, nodeV, hw, accA]
  | cons y ys =>
    simp only [List.length_cons] at hl1 hl2
    simp [st3035, b3035_0, hlt, hc, p3, e3, hpU, u1, u2, h33, F33, h36, F36, nodeV, hw, accA, hl1, hl2]
set_option maxRecDepth 100000 in
set_option maxHeartbeats 16000000 in
theorem stepR3035 (E : Env) (cf : CallF) (m : Nat) (F3 FU FN : List SV → Option AV) (p3 : E.pure 87 = some F3) (hpU : E.pure 48 = some FU) (hU : S35o FU) (h33 : E.pure 46 = some F33) (pN : E.pure 64 = some FN) (hN : S51r FN) (R G acc : List SV) (ha : acc.length < 1000) (i : Nat) (hlt : i < G.length) (hgl : G.length < 1000) (nm nm2 : List UInt8) (fs ss : List SV) (q0 q1 q2 q3 q4 q5 q6 q7 q8 q9 q10 q11 : Nat) (hc : ∀ h : i < G.length, G[i]'h = .agg [.str sRa, .str nm, .sl fs]) (e3 : F3 [.sl R, .str sRa] = some (.sv (.tup [.agg [.str nm2, .sl (u64s [q0, q1, q2, q3, q4, q5, q6, q7, q8, q9, q10, q11]), .sl ss], .bool true])))
    (z : Box) (bx : List Box) (hT : bx.all boxTame = true) :
    ∃ bx', bx'.all boxTame = true ∧ evCA E cf m b3035_0 (st3035 R G acc i z bx) = some (.normal, st3035 R G (acc ++ [raNode nm q0 q11 [q1, q2, q3, q4, q5, q6, q7, q8, q9, q10]]) (i + 1) z bx') := by
  have hw : IntKind.i64.wrap ((i : Int) + 1) = ((i + 1 : Nat) : Int) := by rw [IntKind.wrap_i64]; omega
  have hl1 : (acc.length + 1) * 96 ≤ 140737488355328 := by omega
  have hl2 : acc.length + 1 ≤ 140737488355328 := by omega
  have u1 := hU [67, 97, 99, 104, 101, 83, 105, 122, 101] (q0 : Int)
  have u2 := hU [78, 111, 116, 70, 111, 117, 110, 100] (q11 : Int)
  have un := hN [67, 97, 99, 104, 101, 72, 105, 115, 116, 111, 103, 114, 97, 109] [q1, q2, q3, q4, q5, q6, q7, q8, q9, q10] (by simp)
  unfold sRa at *
  unfold raNode uNode
  unfold nodeV at *
  generalize [q1, q2, q3, q4, q5, q6, q7, q8, q9, q10].map uN = K at *
  simp only [u64s, List.map_cons, List.map_nil] at e3 un
  refine ⟨bx ++ [.live [.sv (.str [114, 97]), .sv (.str nm), .sv (.sl fs)], .live [.sv (.str nm2), .sv (.sl [.int .u64 (q0 : Int), .int .u64 (q1 : Int), .int .u64 (q2 : Int), .int .u64 (q3 : Int), .int .u64 (q4 : Int), .int .u64 (q5 : Int), .int .u64 (q6 : Int), .int .u64 (q7 : Int), .int .u64 (q8 : Int), .int .u64 (q9 : Int), .int .u64 (q10 : Int), .int .u64 (q11 : Int)]), .sv (.sl ss)]], by simp [List.all_append, hT, boxTame, cellTame], ?_⟩
  cases acc with
  | nil => simp [st3035, b3035_0, hlt, hc, p3, e3, hpU, u1, u2, pN, un, h33, F33, nodeV, hw, accA]
  | cons y ys =>
    simp only [List.length_cons] at hl1 hl2
    simp [st3035, b3035_0, hlt, hc, p3, e3, hpU, u1, u2, pN, un, h33, F33, nodeV, hw, accA, hl1, hl2]
theorem rowOf_mem : ∀ {rs : List RowD} {s : List UInt8} {r : RowD}, rowOf rs s = some r → r ∈ rs ∧ r.name = s
  | [], _, _, h => by cases h
  | x :: rs, s, r, h => by
    unfold rowOf at h
    split at h
    · simp only [Option.some.injEq] at h
      subst h
      exact ⟨by simp, by assumption⟩
    · obtain ⟨h1, h2⟩ := rowOf_mem h
      exact ⟨by simp [h1], h2⟩
theorem srvOk_want {rs : List RowD} (h : srvOk rs = true) {r : RowD} (hr : r ∈ rs) : nfWant nfSrv r.name r.N.length = some r.N.length := by
  unfold srvOk nfOk at h
  simp only [Bool.and_eq_true, List.all_eq_true] at h
  exact (nfOk1_want (h.1 r hr)).1
theorem srvOk_ra {rs : List RowD} (h : srvOk rs = true) {r : RowD} (hr : rowOf rs sRa = some r) : r.N.length = 12 := by
  obtain ⟨m1, m2⟩ := rowOf_mem hr
  have hw := srvOk_want h m1
  rw [m2] at hw
  have hg : ∃ g, grpOf nfSrv sRa = some g := ⟨_, rfl⟩
  obtain ⟨g, hg⟩ := hg
  unfold nfWant at hw
  rw [if_neg sWd_ne.1.symm, hg] at hw
  simp only [if_true, Option.some.injEq] at hw
  exact hw.symm
theorem loop3035 (E : Env) (cf : CallF) (m : Nat) (h87 : Has E 87 S3087) (h88 : Has E 88 S3088) (h35 : Has E 48 S35o) (h51 : Has E 64 S51r) (h33 : E.pure 46 = some F33) (h36 : E.pure 49 = some F36) (rs : List RowD) (hrl : rowsFit3 rs) (hok : srvOk rs = true) (G : List SV) (hgl : G.length < 1000) (z : Box) :
    ∀ (rest : List Grp) (pre acc : List SV) (bx : List Box) (i k : Nat), bx.all boxTame = true → G = pre ++ grpsSV rest → i = pre.length → acc.length = i → (∀ g ∈ rest, g.fields.length < 1000) → rest.length < k →
      ∃ bx', bx'.all boxTame = true ∧ roundsA (evCA E cf m b3035_0) k (st3035 (rowsSV rs) G acc i z bx) = some (.exit 0, { nt := 83, tm := [(4, accA 42 (acc ++ rest.map (srvKid rs))), (2, .ptr 0 0), (0, .sv (.sl (rowsSV rs)))], lz := none, bx := z :: bx', df := [], lk := true }) := by
  obtain ⟨F3, p3, s3⟩ := h87
  obtain ⟨F8, p8, s8⟩ := h88
  obtain ⟨FU, pU, sU⟩ := h35
  obtain ⟨FN, pN, sN⟩ := h51
  intro rest
  induction rest with
  | nil =>
    intro pre acc bx i k hT hsp hi _ _ hk
    obtain ⟨k, rfl⟩ : ∃ k', k = k' + 1 := ⟨k - 1, by omega⟩
    have hlt : ¬ (i < G.length) := by rw [hsp, hi]; simp [grpsSV]
    refine ⟨bx, hT, roundsA_out ?_ (by simp)⟩
    simp [st3035, b3035_0, hlt]
  | cons g rest ih =>
    intro pre acc bx i k hT hsp hi ha hr hk
    obtain ⟨k, rfl⟩ : ∃ k', k = k' + 1 := ⟨k - 1, by omega⟩
    have hlt : i < G.length := by rw [hsp, hi]; simp [grpsSV]
    have hc : ∀ h : i < G.length, G[i]'h = .agg [.str g.label, .str g.name, .sl (strs g.fields)] := by subst hi; subst hsp; simp [grpsSV, Grp.sv]
    have e3 := s3 rs g.label (by have := hrl.1; omega)
    have hst : ∃ bx', bx'.all boxTame = true ∧ evCA E cf m b3035_0 (st3035 (rowsSV rs) G acc i z bx) = some (.normal, st3035 (rowsSV rs) G (acc ++ [srvKid rs g]) (i + 1) z bx') := by
      by_cases hra : g.label = sRa
      · unfold srvKid
        rw [if_pos hra, numsOf_row]
        rw [hra] at e3 hc ⊢
        cases hv : rowOf rs sRa with
        | none =>
          rw [hv] at e3
          exact stepO3035 E cf m F3 FU p3 pU sU h33 h36 (rowsSV rs) G acc (by omega) i hlt hgl g.name [] (strs g.fields) [] [] hc e3 z bx hT
        | some r =>
          rw [hv] at e3
          have h12 := srvOk_ra hok hv
          obtain ⟨nm2, N, S⟩ := r
          simp only at h12
          match N, h12 with
          | [q0, q1, q2, q3, q4, q5, q6, q7, q8, q9, q10, q11], _ =>
            exact stepR3035 E cf m F3 FU FN p3 pU sU h33 pN sN (rowsSV rs) G acc (by omega) i hlt hgl g.name nm2 (strs g.fields) (strs S) q0 q1 q2 q3 q4 q5 q6 q7 q8 q9 q10 q11 hc e3 z bx hT
      · unfold srvKid
        rw [if_neg hra, numsOf_row]
        cases hv : rowOf rs g.label with
        | none =>
          rw [hv] at e3
          have e8 := s8 g.name g.fields [] (hr g (by simp)) (by simp)
          exact stepN3035 E cf m F3 F8 p3 p8 (rowsSV rs) G acc (by omega) i hlt hgl g.label g.name [] (strs g.fields) [] [] hc false e3 _ _ rfl rfl (fillN_can0 _ _ _ _ rfl) e8 hra z bx hT
        | some r =>
          rw [hv] at e3
          have hrf := hrl.2 r (rowOf_mem hv).1
          have e8 := s8 g.name g.fields r.N (hr g (by simp)) (by have := hrf.2.1; omega)
          exact stepN3035 E cf m F3 F8 p3 p8 (rowsSV rs) G acc (by omega) i hlt hgl g.label g.name r.name (strs g.fields) (u64s r.N) (strs r.S) hc true e3 _ _ rfl rfl (fillN_can0 _ _ _ _ rfl) e8 hra z bx hT
    obtain ⟨b1, hT1, hst⟩ := hst
    obtain ⟨bx', hT', he⟩ := ih (pre ++ [g.sv]) (acc ++ [srvKid rs g]) b1 (i + 1) k hT1 (by rw [hsp]; simp [grpsSV]) (by simp [hi]) (by simp [ha]) (fun q hq => hr q (by simp [hq])) (by simp at hk; omega)
    refine ⟨bx', hT', ?_⟩
    rw [roundsA_step hst, he]
    simp
def S3035 (F : List SV → Option AV) : Prop := STreeG srvOk srvTree F
set_option maxHeartbeats 8000000 in
theorem ev3035 (E : Env) (h : E.code 35 = some c3035) (h96 : Has E 96 S3096) (h84 : Has E 84 S3084) (h87 : Has E 87 S3087) (h88 : Has E 88 S3088) (h97 : Has E 97 S3097) (h35 : Has E 48 S35o) (h51 : Has E 64 S51r) (h33 : E.pure 46 = some F33) (h36 : E.pure 49 = some F36) : S3035 (autoF E 35) := by
  have h35' := h35
  obtain ⟨FU, pU, sU⟩ := h35'
  obtain ⟨F1, p1, e1⟩ := h96
  obtain ⟨F2, p2, s2⟩ := h84
  obtain ⟨F7, p7, s7⟩ := h97
  intro l hl hok
  have e2 := s2 nfSrv l nfSrv_small.1 nfSrv_small.2 hl
  have hok' : nfOk nfSrv l = true := hok
  rw [hok'] at e2
  have e7 := s7 l sWd (by have := hl.1; omega)
  have u7 := sU sWdN (((numsOf l sWd).getD 0 0 : Nat) : Int)
  unfold S3096 at e1
  obtain ⟨bx', hT, he⟩ := loop3035 E (evF E 20) 20 h87 h88 h35 h51 h33 h36 l hl hok (grpsSV nfSrv) (by decide) (.live [.sv (.str []), .sv (.int .i64 0), .sv (.bool false), .sv (.int .i64 0), .sv (.int .u64 0), .sv (.flt .f64 0), .sv (.str []), .sv .nilS]) nfSrv [] [] [] 0 20 rfl rfl rfl rfl nfSrv_small.2 (by decide)
  have k1 : ∀ s : SA, (tidyBsA 1 bx' s).nt = s.nt := fun s => (tidyBsA_keep bx' 1 (by omega) s hT).1
  have k2 : ∀ s : SA, (tidyBsA 1 bx' s).tm = s.tm := fun s => (tidyBsA_keep bx' 1 (by omega) s hT).2.1
  have k3 : ∀ s : SA, (tidyBsA 1 bx' s).bx[0]? = s.bx[0]? := fun s => (tidyBsA_keep bx' 1 (by omega) s hT).2.2.2.2
  refine autoA_sv (n := 20) ?_ rfl
  unfold evPA
  simp only [h]
  unfold srvTree uNode
  unfold nodeV at *
  have hgl : (grpsSV nfSrv).length = 11 := rfl
  rw [List.nil_append] at he
  obtain ⟨y, ys, hys⟩ : ∃ y ys, nfSrv.map (srvKid l) = y :: ys := ⟨_, _, rfl⟩
  have hysl : ys.length = 10 := by
    have := congrArg List.length hys
    simp only [List.length_map, List.length_cons] at this
    have h11 : nfSrv.length = 11 := rfl
    omega
  rw [hys] at he ⊢
  clear hys
  simp only [st3035, accA, hgl, Int.ofNat_zero, Int.natCast_zero] at he
  rw [show ((11 : Nat) : Int) = 11 from rfl] at he
  unfold sWd at *
  unfold sWdN at *
  generalize (numsOf l [119, 100, 101, 108, 101, 103, 95, 103, 101, 116, 97, 116, 116, 114]).getD 0 0 = w at *
  generalize rowsSV l = R at *
  generalize grpsSV nfSrv = G at *
  simp [c3035, p1, e1, p2, e2, hgl, he, p7, e7, pU, u7, h33, F33, nodeV, hysl, k1, k2, k3]
end Go.Ev
