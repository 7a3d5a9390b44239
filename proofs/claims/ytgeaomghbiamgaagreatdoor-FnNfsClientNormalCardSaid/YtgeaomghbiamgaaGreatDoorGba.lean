/- NFS: the server: the reference's reading and tree. -/
/- Softirqs: what is written of rows. -/
/- Softirqs: what is written of rows, whole. -/
/- Softirqs: the reference's printing, whole. -/
/- Softirqs: the reference's tree. -/
/- NFS: the server: the reference's tree. -/
import Derived.Test.YtgeaomghbiamgaaGreatDoorGay
import Derived.Test.YtgeaomghbiamgaaGreatDoorGar
import Derived.Test.YtgeaomghbiamgaaGreatDoorGat
import Derived.Test.YtgeaomghbiamgaaGreatDoorGas
set_option linter.unusedSimpArgs false
set_option linter.unusedVariables false
namespace Go.Ev
open Go.Proofs

/-! ### The reading -/

/-- What the reference reads of a line. -/
def nfLine (f : List (List UInt8)) : Option RowD := match f with
  | g0 :: g1 :: g => match decsV (if g0 = sTh then ((if isProc g0 = true then g else g1 :: g)).take 2 else (if isProc g0 = true then g else g1 :: g)) with
    | some ns => some ⟨g0, ns, []⟩
    | none => none
  | _ => none

def nfTab : List (List UInt8) → Option (List RowD)
  | [] => some []
  | s :: l => match nfLine (fieldsL s) with
    | some r => match nfTab l with
      | some rs => some (r :: rs)
      | none => none
    | none => none

def bad3095 (bx : List Box) : SA := { nt := 58, tm := [(3, .sv (.bool false)), (2, .sv .nilS)], lz := none, bx := bx, df := [] }
def st3095 (xs acc : List SV) (i : Nat) (bx : List Box) : SA := { nt := 58, tm := [(15, .sv (.int .i64 i)), (14, .sv (.int .i64 xs.length)), (13, .sv (.sl xs)), (4, accA 35 acc)], lz := none, bx := bx, df := [] }

theorem snoc_setW (B : List Box) (x y : Box) : (B ++ [x]).set B.length y = B ++ [y] := by
  rw [List.set_append_right _ _ (Nat.le_refl _), Nat.sub_self]; rfl

theorem isProc_th {s : List UInt8} (h : isProc s = true) : s ≠ sTh := by
  rintro rfl
  exact absurd h (by decide)

set_option maxRecDepth 100000 in
set_option maxHeartbeats 16000000 in
theorem core3095 (E : Env) (cf : CallF) (m : Nat) (h52 : E.pure 61 = some F52) (h30 : E.pure 71 = some F30) (h77 : E.pure 92 = some F77) (xs acc : List SV) (ha : acc.length < 1000000) (i : Nat) (hlt : i < xs.length) (hxl : xs.length < 1000000) (c : List UInt8) (hc : ∀ h : i < xs.length, xs[i]'h = .str c) (bx : List Box)
    (g0 g1 : List UInt8) (g : List (List UInt8)) (hgl : g.length < 1000000) (hF : F52 [.str c] = some (.sv (.sl (.str g0 :: .str g1 :: strs g)))) (l2 : List (List UInt8)) (hl2 : l2 = (if g0 = sTh then ((if isProc g0 = true then g else g1 :: g)).take 2 else (if isProc g0 = true then g else g1 :: g)))
    (R : List SV) (ok : Bool) (h7 : F77 [.sl (strs l2)] = some (.sv (.tup [.sl R, .bool ok]))) (hR : ok = false → R = []) :
    ∃ bx', evCA E cf m b3095_0 (st3095 xs acc i bx) = if ok = true then some (.normal, st3095 xs (acc ++ [.agg [.str g0, .sl R, .sl []]]) (i + 1) bx') else some (.ret, bad3095 bx') := by
  have hw : IntKind.i64.wrap ((i : Int) + 1) = ((i + 1 : Nat) : Int) := by rw [IntKind.wrap_i64]; omega
  have hb1 : (acc.length + 1) * 64 ≤ 140737488355328 := by omega
  have hb2 : acc.length + 1 ≤ 140737488355328 := by omega
  have e30 : F30 [.str g0, .str [112, 114, 111, 99]] = some (.sv (.bool (isProc g0))) := rfl
  have hgs : (strs g).length = g.length := strs_length g
  have hu : (∀ x : SV, x ∈ strs g → x.cells.length = 1) = True := eq_true (fun x hx => by
    obtain ⟨y, _, rfl⟩ := List.mem_map.1 hx
    rfl)
  have htk : (strs g).take g.length = strs g := List.take_of_length_le (Nat.le_of_eq hgs)
  simp only [SV.cells] at hu
  have a1 : ¬ ((g.length : Int) + 1 + 1 < 2) := by omega
  have a2 : (0 : Int) ≤ (g.length : Int) + 1 + 1 := by omega
  have a3 : (1 : Int) ≤ (g.length : Int) + 1 + 1 := by omega
  have a4 : (0 : Int) ≤ (g.length : Int) + 1 := by omega
  have a5 : (1 : Int) ≤ (g.length : Int) + 1 := by omega
  have c1 : 1 ≤ g.length + 1 + 1 := by omega
  have c2 : 1 ≤ g.length + 1 := by omega
  by_cases hpr : isProc g0 = true
  · have hth := isProc_th hpr
    rw [if_neg hth, if_pos hpr] at hl2
    rw [hpr] at e30
    have hthb : (g0 == [116, 104]) = false := by simpa [sTh] using hth
    have hthn : ¬ g0 = [116, 104] := hth
    have hl3 : g = l2 := hl2.symm
    clear hl2
    subst hl3
    have m2 : max ((g.length : Int) + 1 + 1) 0 = (g.length : Int) + 1 + 1 := by omega
    have m1 : max ((g.length : Int) + 1) 0 = (g.length : Int) + 1 := by omega
    have t2 : ((g.length : Int) + 1 + 1).toNat = g.length + 1 + 1 := by omega
    have t1 : ((g.length : Int) + 1).toNat = g.length + 1 := by omega
    have p0 : (0 : Int) < (g.length : Int) + 1 + 1 := by omega
    have p1 : (0 : Int) < (g.length : Int) + 1 := by omega
    refine ⟨bx ++ [.live [.sv (.str g0), .sv (if ok then .sl R else .nilS), .sv .nilS]], ?_⟩
    generalize strs g = G at *
    cases ok with
    | false => simp [st3095, bad3095, b3095_0, hlt, hc, h52, hF, hgs, hu, htk, m2, m1, t2, t1, p0, p1, a1, a2, a3, a4, a5, c1, c2, h30, e30, hthb, hthn, h77, h7, snoc_setW]
    | true =>
      cases acc with
      | nil => simp [st3095, b3095_0, hlt, hc, h52, hF, hgs, hu, htk, m2, m1, t2, t1, p0, p1, a1, a2, a3, a4, a5, c1, c2, h30, e30, hthb, hthn, h77, h7, snoc_setW, hw, accA]
      | cons y ys =>
        simp only [List.length_cons] at hb1 hb2
        simp [st3095, b3095_0, hlt, hc, h52, hF, hgs, hu, htk, m2, m1, t2, t1, p0, p1, a1, a2, a3, a4, a5, c1, c2, h30, e30, hthb, hthn, h77, h7, snoc_setW, hw, accA, hb1, hb2]
  have hpr' : isProc g0 = false := by simpa using hpr
  rw [hpr'] at e30
  by_cases hth : g0 = sTh
  · rw [if_pos hth, if_neg hpr] at hl2
    have hthn : g0 = [116, 104] := hth
    clear hth hpr
    subst hthn
    have hsm : ∃ l3, l2 = g1 :: l3 ∧ l3.length ≤ 1 ∧ ((g.length = 0 ∧ l3 = []) ∨ (∃ g2 g', g = g2 :: g' ∧ l3 = [g2])) := by
      subst hl2
      cases g with
      | nil => exact ⟨[], rfl, by simp, .inl ⟨rfl, rfl⟩⟩
      | cons g2 g' => exact ⟨[g2], rfl, by simp, .inr ⟨g2, g', rfl, rfl⟩⟩
    obtain ⟨l3, rfl, _, hcs⟩ := hsm
    refine ⟨bx ++ [.live [.sv (.str [116, 104]), .sv (if ok then .sl R else .nilS), .sv .nilS]], ?_⟩
    clear hl2
    rcases hcs with ⟨hg0, rfl⟩ | ⟨g2, g', rfl, rfl⟩
    · obtain rfl := List.eq_nil_of_length_eq_zero hg0
      simp only [strs, List.map_cons, List.map_nil] at hF h7
      cases ok with
      | false => simp [st3095, bad3095, b3095_0, hlt, hc, h52, hF, h30, e30, h77, h7, snoc_setW]
      | true =>
        cases acc with
        | nil => simp [st3095, b3095_0, hlt, hc, h52, hF, h30, e30, h77, h7, snoc_setW, hw, accA]
        | cons y ys =>
          simp only [List.length_cons] at hb1 hb2
          simp [st3095, b3095_0, hlt, hc, h52, hF, h30, e30, h77, h7, snoc_setW, hw, accA, hb1, hb2]
    · simp only [strs, List.map_cons, List.map_nil] at hF h7
      rw [show g'.map SV.str = strs g' from rfl] at hF
      have hgs' : (strs g').length = g'.length := strs_length g'
      have hu' : (∀ x : SV, x ∈ strs g' → x.cells.length = 1) = True := eq_true (fun x hx => by
        obtain ⟨y, _, rfl⟩ := List.mem_map.1 hx
        rfl)
      have htk' : (strs g').take g'.length = strs g' := List.take_of_length_le (Nat.le_of_eq hgs')
      simp only [SV.cells] at hu'
      simp only [List.length_cons] at hgl
      have p0 : (0 : Int) < (g'.length : Int) + 1 + 1 + 1 := by omega
      have p1 : (0 : Int) < (g'.length : Int) + 1 + 1 := by omega
      have m3 : max ((g'.length : Int) + 1 + 1 + 1) 0 = (g'.length : Int) + 1 + 1 + 1 := by omega
      have m2 : max ((g'.length : Int) + 1 + 1) 0 = (g'.length : Int) + 1 + 1 := by omega
      have t3 : ((g'.length : Int) + 1 + 1 + 1).toNat = g'.length + 1 + 1 + 1 := by omega
      have t2 : ((g'.length : Int) + 1 + 1).toNat = g'.length + 1 + 1 := by omega
      have d1 : ¬ ((g'.length : Int) + 1 + 1 + 1 < 2) := by omega
      have d2 : (0 : Int) ≤ (g'.length : Int) + 1 + 1 + 1 := by omega
      have d3 : (1 : Int) ≤ (g'.length : Int) + 1 + 1 + 1 := by omega
      have d4 : ¬ ((g'.length : Int) + 1 + 1 < 2) := by omega
      have d5 : (2 : Int) ≤ (g'.length : Int) + 1 + 1 := by omega
      have d6 : 1 ≤ g'.length + 1 + 1 + 1 := by omega
      have d7 : 2 ≤ g'.length + 1 + 1 := by omega
      clear hgs hu htk
      generalize strs g' = G at *
      cases ok with
      | false => simp [st3095, bad3095, b3095_0, hlt, hc, h52, hF, hgs', hu', htk', m3, m2, t3, t2, p0, p1, d1, d2, d3, d4, d5, d6, d7, h30, e30, h77, h7, snoc_setW]
      | true =>
        cases acc with
        | nil => simp [st3095, b3095_0, hlt, hc, h52, hF, hgs', hu', htk', m3, m2, t3, t2, p0, p1, d1, d2, d3, d4, d5, d6, d7, h30, e30, h77, h7, snoc_setW, hw, accA]
        | cons y ys =>
          simp only [List.length_cons] at hb1 hb2
          simp [st3095, b3095_0, hlt, hc, h52, hF, hgs', hu', htk', m3, m2, t3, t2, p0, p1, d1, d2, d3, d4, d5, d6, d7, h30, e30, h77, h7, snoc_setW, hw, accA, hb1, hb2]
  · rw [if_neg hth, if_neg hpr] at hl2
    have hthb : (g0 == [116, 104]) = false := by simpa [sTh] using hth
    have hthn : ¬ g0 = [116, 104] := hth
    subst hl2
    have m2 : max ((g.length : Int) + 1 + 1) 0 = (g.length : Int) + 1 + 1 := by omega
    have m1 : max ((g.length : Int) + 1) 0 = (g.length : Int) + 1 := by omega
    have t2 : ((g.length : Int) + 1 + 1).toNat = g.length + 1 + 1 := by omega
    have t1 : ((g.length : Int) + 1).toNat = g.length + 1 := by omega
    have p0 : (0 : Int) < (g.length : Int) + 1 + 1 := by omega
    have p1 : (0 : Int) < (g.length : Int) + 1 := by omega
    simp only [strs, List.map_cons] at h7
    rw [show g.map SV.str = strs g from rfl] at h7
    refine ⟨bx ++ [.live [.sv (.str g0), .sv (if ok then .sl R else .nilS), .sv .nilS]], ?_⟩
    generalize strs g = G at *
    cases ok with
    | false => simp [st3095, bad3095, b3095_0, hlt, hc, h52, hF, hgs, hu, htk, m2, m1, t2, t1, p0, p1, a1, a2, a3, a4, a5, c1, c2, h30, e30, hthb, hthn, h77, h7, snoc_setW]
    | true =>
      cases acc with
      | nil => simp [st3095, b3095_0, hlt, hc, h52, hF, hgs, hu, htk, m2, m1, t2, t1, p0, p1, a1, a2, a3, a4, a5, c1, c2, h30, e30, hthb, hthn, h77, h7, snoc_setW, hw, accA]
      | cons y ys =>
        simp only [List.length_cons] at hb1 hb2
        simp [st3095, b3095_0, hlt, hc, h52, hF, hgs, hu, htk, m2, m1, t2, t1, p0, p1, a1, a2, a3, a4, a5, c1, c2, h30, e30, hthb, hthn, h77, h7, snoc_setW, hw, accA, hb1, hb2]

theorem step3095 (E : Env) (cf : CallF) (m : Nat) (h52 : E.pure 61 = some F52) (h30 : E.pure 71 = some F30) (h77 : E.pure 92 = some F77) (xs acc : List SV) (ha : acc.length < 1000000) (i : Nat) (hlt : i < xs.length) (hxl : xs.length < 1000000) (c : List UInt8) (hcl : c.length < 100000) (hc : ∀ h : i < xs.length, xs[i]'h = .str c) (bx : List Box) :
    ∃ bx', evCA E cf m b3095_0 (st3095 xs acc i bx) = match nfLine (fieldsL c) with
      | some r => some (.normal, st3095 xs (acc ++ [r.sv]) (i + 1) bx')
      | none => some (.ret, bad3095 bx') := by
  have hF := F52_eq c (by omega)
  obtain ⟨_, hsh1, hsh2⟩ := fieldsV_shape c
  match hfl : fieldsL c with
  | [] =>
    rw [hfl] at hF
    simp only [strs, List.map_nil] at hF
    exact ⟨bx, by simp [nfLine, st3095, bad3095, b3095_0, hlt, hc, h52, hF]⟩
  | [x] =>
    rw [hfl] at hF
    simp only [strs, List.map_nil, List.map_cons] at hF
    exact ⟨bx, by simp [nfLine, st3095, bad3095, b3095_0, hlt, hc, h52, hF]⟩
  | g0 :: g1 :: g =>
    rw [hfl] at hF hsh1 hsh2
    simp only [strs, List.map_cons] at hF
    rw [show g.map SV.str = strs g from rfl] at hF
    simp only [List.length_cons] at hsh1
    obtain ⟨l2, hl2⟩ : ∃ l2, l2 = (if g0 = sTh then ((if isProc g0 = true then g else g1 :: g)).take 2 else (if isProc g0 = true then g else g1 :: g)) := ⟨_, rfl⟩
    have hsub : l2.length < 1000000 ∧ ∀ x ∈ l2, x ∈ g1 :: g := by
      have h1 : ∀ l : List (List UInt8), l = (if isProc g0 = true then g else g1 :: g) → l.length ≤ g.length + 1 ∧ ∀ x ∈ l, x ∈ g1 :: g := by
        intro l hl
        subst hl
        split
        · exact ⟨by omega, fun x hx => List.mem_cons_of_mem _ hx⟩
        · exact ⟨by simp, fun x hx => hx⟩
      subst hl2
      obtain ⟨k1, k2⟩ := h1 _ rfl
      split
      · exact ⟨by rw [List.length_take]; omega, fun x hx => k2 x (List.mem_of_mem_take hx)⟩
      · exact ⟨by omega, k2⟩
    have h7 := F77_eq l2 (by omega) (fun s hs => by have := hsh2 s (List.mem_cons_of_mem _ (hsub.2 s hs)); omega)
    unfold nfLine
    simp only
    rw [← hl2]
    cases hd : decsV l2 with
    | none =>
      rw [hd] at h7
      obtain ⟨bx', he⟩ := core3095 E cf m h52 h30 h77 xs acc ha i hlt hxl c hc bx g0 g1 g (by omega) hF l2 hl2 [] false h7 (fun _ => rfl)
      exact ⟨bx', by rw [he]; rfl⟩
    | some ns =>
      rw [hd] at h7
      obtain ⟨bx', he⟩ := core3095 E cf m h52 h30 h77 xs acc ha i hlt hxl c hc bx g0 g1 g (by omega) hF l2 hl2 (u64s ns) true h7 (fun h => by cases h)
      exact ⟨bx', by rw [he]; rfl⟩

theorem loop3095 (E : Env) (cf : CallF) (m : Nat) (h52 : E.pure 61 = some F52) (h30 : E.pure 71 = some F30) (h77 : E.pure 92 = some F77) (xs : List SV) (hxl : xs.length < 1000000) :
    ∀ (rest : List (List UInt8)) (pre acc : List SV) (i k : Nat) (bx : List Box), xs = pre ++ strs rest → i = pre.length → acc.length = i → (∀ x ∈ rest, x.length < 100000) → rest.length < k →
      ∃ bx', roundsA (evCA E cf m b3095_0) k (st3095 xs acc i bx) =
        match nfTab rest with
        | some rs => some (.exit 0, { nt := 58, tm := [(4, accA 35 (acc ++ rowsSV rs))], lz := none, bx := bx', df := [] })
        | none => some (.ret, bad3095 bx') := by
  intro rest
  induction rest with
  | nil =>
    intro pre acc i k bx hsp hi _ _ hk
    obtain ⟨k, rfl⟩ : ∃ k', k = k' + 1 := ⟨k - 1, by omega⟩
    have hlt : ¬ (i < xs.length) := by rw [hsp, hi]; simp [strs]
    refine ⟨bx, roundsA_out ?_ (by simp [nfTab])⟩
    simp [b3095_0, st3095, hlt, nfTab, rowsSV]
  | cons c rest ih =>
    intro pre acc i k bx hsp hi ha hr hk
    obtain ⟨k, rfl⟩ : ∃ k', k = k' + 1 := ⟨k - 1, by omega⟩
    have hlt : i < xs.length := by rw [hsp, hi]; simp [strs]
    have hc : ∀ h : i < xs.length, xs[i]'h = .str c := by subst hi; subst hsp; simp [strs]
    obtain ⟨bx1, hst⟩ := step3095 E cf m h52 h30 h77 xs acc (by omega) i hlt (by omega) c (hr c (by simp)) hc bx
    simp only [nfTab]
    cases hv : nfLine (fieldsL c) with
    | none =>
      rw [hv] at hst
      exact ⟨bx1, roundsA_out hst (by simp)⟩
    | some r =>
      rw [hv] at hst
      obtain ⟨bx', he⟩ := ih (pre ++ [.str c]) (acc ++ [r.sv]) (i + 1) k bx1 (by rw [hsp]; simp [strs]) (by simp [hi]) (by simp [ha]) (fun x hx => hr x (by simp [hx])) (by simp at hk; omega)
      refine ⟨bx', ?_⟩
      rw [roundsA_step hst, he]
      cases nfTab rest with
      | none => rfl
      | some rs => simp [rowsSV]

theorem nfLine_fit {f : List (List UInt8)} {r : RowD} {B : Nat} (hB : B < 1000000) (h : nfLine f = some r) (hl : f.length ≤ B) (hf : ∀ x ∈ f, x.length ≤ B) : r.fits3 := by
  unfold nfLine at h
  split at h <;> try (cases h; done)
  rename_i g0 g1 g
  split at h <;> try (cases h; done)
  rename_i ns hd
  simp only [Option.some.injEq] at h
  subst h
  obtain ⟨k1, k2⟩ := decsV_fit hd
  have h0 := hf g0 (by simp)
  simp only [List.length_cons] at hl
  refine ⟨by simp only; omega, ?_, k2, by simp, by simp⟩
  simp only
  rw [k1]
  split <;> split <;> (try rw [List.length_take]) <;> (try simp only [List.length_cons]) <;> omega

theorem nfTab_fit {B : Nat} (hB : B < 1000000) : ∀ {ls : List (List UInt8)} {rs : List RowD}, nfTab ls = some rs → (∀ s ∈ ls, s.length < B) → rs.length = ls.length ∧ ∀ r ∈ rs, r.fits3
  | [], rs, h, _ => by simp only [nfTab, Option.some.injEq] at h; subst h; simp
  | s :: ls, rs, h, hl => by
    simp only [nfTab] at h
    cases hv : nfLine (fieldsL s) with
    | none => rw [hv] at h; cases h
    | some r =>
      rw [hv] at h
      cases ht : nfTab ls with
      | none => rw [ht] at h; cases h
      | some q =>
        rw [ht] at h
        simp only [Option.some.injEq] at h
        subst h
        obtain ⟨i1, i2⟩ := nfTab_fit hB ht (fun x hx => hl x (by simp [hx]))
        obtain ⟨_, s1, s2⟩ := fieldsV_shape s
        have hs := hl s (by simp)
        refine ⟨by simp [i1], fun q' hq => ?_⟩
        rcases List.mem_cons.1 hq with rfl | hq
        · exact nfLine_fit hB hv (by omega) (fun x hx => by have := s2 x hx; omega)
        · exact i2 q' hq

def S3095 (F : List SV → Option AV) : Prop := ∀ s : List UInt8, s.length ≤ 40000 → F [.str s] = some (.sv (.tup (match nfTab (linesL s) with | some rs => [.sl (rowsSV rs), .bool true] | none => [.sl [], .bool false])))

theorem ev3095 (E : Env) (h : E.code 37 = some c3095) (h28 : E.pure 59 = some F28) (h52 : E.pure 61 = some F52) (h30 : E.pure 71 = some F30) (h77 : E.pure 92 = some F77) : S3095 (autoF E 37) := by
  intro s hs
  have e28 := F28_eq s (by omega)
  obtain ⟨_, k1, k2⟩ := linesV_shape s
  obtain ⟨bx', he⟩ := loop3095 E (evF E (s.length + 3)) (s.length + 3) h52 h30 h77 (strs (linesL s)) (by rw [strs_length]; omega) (linesL s) [] [] 0 (s.length + 3) [] rfl rfl rfl (fun x hx => by have := k2 x hx; omega) (by omega)
  refine autoA_sv (n := s.length + 3) ?_ (by split <;> rfl)
  unfold evPA
  simp only [h]
  generalize linesL s = ls at *
  simp only [st3095, accA, List.nil_append, Int.ofNat_zero, Int.natCast_zero, bad3095] at he
  generalize strs ls = X at *
  cases hv : nfTab ls with
  | none => rw [hv] at he; simp only at he; simp [c3095, h28, e28, he]
  | some rs =>
    rw [hv] at he
    simp only at he ⊢
    generalize rowsSV rs = R at *
    cases R with
    | nil => simp only [accA] at he; simp [c3095, h28, e28, he]
    | cons y ys => simp only [accA] at he; simp [c3095, h28, e28, he]

/-! ### The server's printing and reading -/

theorem ev31G (E : Env) (h : E.code 38 = some c31) (h78 : E.pure 93 = some F78) (P : Nat) (F : List SV → Option AV) (hP : E.pure P = some F) (text : List UInt8) (hs : text.length < 9223372036854775807) (rows : List SV) (ok : Bool) (out : List UInt8) (told : Int)
    (hF : F [.sl rows] = some (.sv (.tup [.str out, .int .i64 told]))) (n : Nat) :
    evP E n 38 [.str text, .sl rows, .bool ok, .fn P [] [], .bool false] = some (.sv (.tup (if ok = true ∧ text.all plainC = true ∧ told = 1 ∧ out = text then [.sl rows, .bool true, .int .i64 1] else [.sl [], .bool false, .int .i64 2]))) := by
  unfold evP
  simp only [h]
  have hF78 := F78_eq text hs
  cases ok with
  | false => simp [c31, List.replicate]
  | true =>
    cases hp : text.all plainC with
    | false => rw [hp] at hF78; simp [c31, List.replicate, h78, hF78]
    | true =>
      rw [hp] at hF78
      by_cases h1 : told = 1
      · subst h1
        by_cases h2 : out = text
        · subst h2
          simp [c31, List.replicate, h78, hF78, hP, hF]
        · have h2b : (out != text) = true := by simpa using h2
          have h2c : (out == text) = false := by simpa using h2
          simp [c31, List.replicate, h78, hF78, hP, hF, h2, h2b, h2c]
      · have h1b : (told != 1) = true := by simpa using h1
        simp [c31, List.replicate, h78, hF78, hP, hF, h1, h1b]

end Go.Ev

set_option linter.unusedSimpArgs false
set_option linter.unusedVariables false
namespace Go.Ev
open Go.Proofs

end Go.Ev

set_option linter.unusedSimpArgs false
set_option linter.unusedVariables false
namespace Go.Ev
open Go.Proofs

end Go.Ev

set_option linter.unusedSimpArgs false
set_option linter.unusedVariables false
namespace Go.Ev
open Go.Proofs

end Go.Ev

set_option linter.unusedSimpArgs false
set_option linter.unusedVariables false
namespace Go.Ev
open Go.Proofs

end Go.Ev

set_option linter.unusedSimpArgs false
set_option linter.unusedVariables false
namespace Go.Ev
open Go.Proofs

def cellTame : Cell → Bool
  | .lnk j _ => decide (1 ≤ j)
  | .lrw j _ _ => decide (1 ≤ j)
  | _ => true

def boxTame : Box → Bool
  | .live cs => cs.all cellTame
  | _ => true

def KeepS (s s' : SA) : Prop := s'.nt = s.nt ∧ s'.tm = s.tm ∧ s'.df = s.df ∧ s'.lk = s.lk ∧ s'.bx[0]? = s.bx[0]?

theorem KeepS.refl (s : SA) : KeepS s s := ⟨rfl, rfl, rfl, rfl, rfl⟩
theorem KeepS.trans {a b c : SA} (h : KeepS a b) (g : KeepS b c) : KeepS a c :=
  ⟨g.1.trans h.1, g.2.1.trans h.2.1, g.2.2.1.trans h.2.2.1, g.2.2.2.1.trans h.2.2.2.1, g.2.2.2.2.trans h.2.2.2.2⟩

theorem set_zero {B : List Box} {i : Nat} {x : Box} (h : 1 ≤ i) : (B.set i x)[0]? = B[0]? := List.getElem?_set_ne (by omega)

theorem tidy1A_keep (s : SA) (i off j o : Nat) (hi : 1 ≤ i) (hj : 1 ≤ j) : KeepS s (tidy1A s i off j o) := by
  unfold tidy1A sinkA
  simp only
  cases hb : s.bx[j]? with
  | none => exact KeepS.refl s
  | some b =>
    simp only
    split
    · split
      · split
        · exact ⟨rfl, rfl, rfl, rfl, by simp only; rw [set_zero hi, set_zero hj]⟩
        · exact KeepS.refl s
      · exact KeepS.refl s
    · exact KeepS.refl s

theorem tidyR1A_keep (s : SA) (i off j n k : Nat) (hi : 1 ≤ i) (hj : 1 ≤ j) : KeepS s (tidyR1A s i off j n k) := by
  unfold tidyR1A sinkA
  simp only
  by_cases hk : k = 1
  · simp only [hk, if_true]
    cases hb : s.bx[j]? with
    | none => exact KeepS.refl s
    | some b =>
      simp only
      by_cases hn : b.cells.length = n
      · simp only [hn, if_true]
        split
        · split
          · split
            · exact ⟨rfl, rfl, rfl, rfl, by simp only; rw [set_zero hi, set_zero hj]⟩
            · exact KeepS.refl s
          · exact KeepS.refl s
        · exact KeepS.refl s
      · simp only [hn, if_false]
        exact KeepS.refl s
  · simp only [hk, if_false]
    exact KeepS.refl s

theorem tidyCsA_keep (i : Nat) (hi : 1 ≤ i) : ∀ (cs : List Cell) (off : Nat) (s : SA), cs.all cellTame = true → KeepS s (tidyCsA i off cs s)
  | [], _, s, _ => by unfold tidyCsA; exact KeepS.refl s
  | .lnk j o :: cs, off, s, h => by
    simp only [List.all_cons, Bool.and_eq_true, cellTame, decide_eq_true_eq] at h
    unfold tidyCsA
    exact (tidy1A_keep s i off j o hi h.1).trans (tidyCsA_keep i hi cs _ _ h.2)
  | .lrw j n k :: cs, off, s, h => by
    simp only [List.all_cons, Bool.and_eq_true, cellTame, decide_eq_true_eq] at h
    unfold tidyCsA
    exact (tidyR1A_keep s i off j n k hi h.1).trans (tidyCsA_keep i hi cs _ _ h.2)
  | .sv _ :: cs, off, s, h => by
    simp only [List.all_cons, Bool.and_eq_true] at h
    unfold tidyCsA
    exact tidyCsA_keep i hi cs _ _ h.2
  | .own _ _ :: cs, off, s, h => by
    simp only [List.all_cons, Bool.and_eq_true] at h
    unfold tidyCsA
    exact tidyCsA_keep i hi cs _ _ h.2

theorem tidyBsA_keep : ∀ (bs : List Box) (i : Nat) (hi : 1 ≤ i) (s : SA), bs.all boxTame = true → KeepS s (tidyBsA i bs s)
  | [], _, _, s, _ => by unfold tidyBsA; exact KeepS.refl s
  | .live cs :: bs, i, hi, s, h => by
    simp only [List.all_cons, Bool.and_eq_true, boxTame] at h
    unfold tidyBsA
    exact (tidyCsA_keep i hi cs 0 s h.1).trans (tidyBsA_keep bs (i + 1) (by omega) _ h.2)
  | .frz _ :: bs, i, hi, s, h => by
    simp only [List.all_cons, Bool.and_eq_true] at h
    unfold tidyBsA
    exact tidyBsA_keep bs (i + 1) (by omega) _ h.2
  | .it _ _ :: bs, i, hi, s, h => by
    simp only [List.all_cons, Bool.and_eq_true] at h
    unfold tidyBsA
    exact tidyBsA_keep bs (i + 1) (by omega) _ h.2

theorem fillN_can0 (nm : List UInt8) (fs : List (List UInt8)) (ns : List Nat) : ∀ kk, fillN nm fs ns = .agg kk → kk.map SV.can0 = kk := by
  intro kk h
  unfold fillN nodeV at h
  simp only [SV.agg.injEq] at h
  subst h
  simp [SV.can0]

theorem rowOf_mem : ∀ {rs : List RowD} {s : List UInt8} {r : RowD}, rowOf rs s = some r → r ∈ rs ∧ r.name = s
  | [], _, _, h => by cases h
  | x :: rs, s, r, h => by
    unfold rowOf at h
    split at h
    · simp only [Option.some.injEq] at h
      subst h
      exact ⟨by simp, by assumption⟩
    · obtain ⟨h1, h2⟩ := rowOf_mem h
      exact ⟨by simp [h1], h2⟩

end Go.Ev
