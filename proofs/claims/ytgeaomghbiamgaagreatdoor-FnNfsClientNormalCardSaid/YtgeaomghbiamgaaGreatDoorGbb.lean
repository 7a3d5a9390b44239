/- NFS: the client: the reference's printing, reading, tree (lines printed by a program of this work). -/
import Derived.Test.YtgeaomghbiamgaaGreatDoorGaz
import Derived.Test.YtgeaomghbiamgaaGreatDoorGba
set_option linter.unusedSimpArgs false
set_option linter.unusedVariables false
namespace Go.Ev
open Go.Proofs

theorem nfCli_small : nfCli.length < 1000 ∧ ∀ g ∈ nfCli, g.fields.length < 1000 := by decide

def cliOk (rs : List RowD) : Bool := nfOk nfCli rs
def cliRd (s : List UInt8) (rs : List RowD) : Prop := cliOk rs = true ∧ nfText rs = s

def S3030 (F : List SV → Option AV) : Prop := SPrintG cliOk nfText F

theorem ev3030 (E : Env) (h : E.code 11 = some c3030) (h85 : Has E 26 S3085) (h84 : Has E 25 S3084) (h86 : Has E 27 S3086) : S3030 (autoF E 11) := by
  obtain ⟨F1, p1, e1⟩ := h85
  obtain ⟨F2, p2, s2⟩ := h84
  obtain ⟨F3, p3, s3⟩ := h86
  intro l hl
  have e2 := s2 nfCli l nfCli_small.1 nfCli_small.2 hl
  unfold S3085 at e1
  unfold cliOk
  refine autoA_sv (n := 1) ?_ (by split <;> rfl)
  unfold evPA
  simp only [h]
  cases hv : nfOk nfCli l with
  | false =>
    rw [hv] at e2
    generalize rowsSV l = R at *
    generalize grpsSV nfCli = G at *
    simp [c3030, p1, e1, p2, e2]
  | true =>
    rw [hv] at e2
    have hlen := nfOk_len hv
    have e3 := s3 l (by have : nfCli.length = 5 := rfl; omega) hl.2
    generalize rowsSV l = R at *
    generalize grpsSV nfCli = G at *
    generalize nfText l = T at *
    simp [c3030, p1, e1, p2, e2, p3, e3]

def S31nc (F : List SV → Option AV) : Prop := ∀ (s : List UInt8) (l : List RowD) (ok : Bool), s.length < 1000000000 → rowsFit3 l →
  F [.str s, .sl (rowsSV l), .bool ok, .fn 11 [] [], .bool false] = some (.sv (.tup (if ok = true ∧ s.all plainC = true ∧ cliOk l = true ∧ nfText l = s then [.sl (rowsSV l), .bool true, .int .i64 1] else [.sl [], .bool false, .int .i64 2])))

theorem ev31nc (E : Env) (h : E.code 38 = some c31) (h78 : E.pure 93 = some F78) (h15 : Has E 11 S3030) : S31nc (autoF E 38) := by
  obtain ⟨F, hp, hF⟩ := h15
  intro s l ok hs hl
  have hFl := hF l hl
  refine autoF_sv (n := 1) ?_ (by split <;> rfl)
  cases hb : cliOk l with
  | true =>
    rw [if_pos hb] at hFl
    rw [ev31G E h h78 11 F hp s (by omega) (rowsSV l) ok (nfText l) 1 hFl 1]
    simp
  | false =>
    rw [if_neg (by simp [hb])] at hFl
    rw [ev31G E h h78 11 F hp s (by omega) (rowsSV l) ok [] 2 hFl 1]
    simp

def S3033 (F : List SV → Option AV) : Prop := SReadG cliRd cliOk F

theorem ev3033 (E : Env) (h : E.code 15 = some c3033) (h95 : Has E 37 S3095) (h31 : Has E 38 S31nc) : S3033 (autoF E 15) := by
  obtain ⟨FR, pR, sR⟩ := h95
  obtain ⟨FM, pM, sM⟩ := h31
  intro s hs
  have eR := sR s hs
  obtain ⟨_, k1, k2⟩ := linesV_shape s
  cases hv : nfTab (linesL s) with
  | none =>
    rw [hv] at eR
    have eM := sM s [] false (by omega) ⟨by simp, by simp⟩
    rw [if_neg (by simp)] at eM
    right
    refine ⟨[], false, autoA_sv (n := 1) ?_ rfl⟩
    unfold evPA
    simp only [h]
    simp only [rowsSV, List.map_nil] at eM
    simp [c3033, pR, eR, pM, eM]
  | some rs =>
    rw [hv] at eR
    simp only at eR
    obtain ⟨f1, f2⟩ := nfTab_fit (B := 40001) (by omega) hv (fun x hx => by have := k2 x hx; omega)
    have hfit : rowsFit3 rs := ⟨by omega, f2⟩
    have eM := sM s rs true (by omega) hfit
    by_cases hc : s.all plainC = true ∧ cliOk rs = true ∧ nfText rs = s
    · rw [if_pos ⟨rfl, hc⟩] at eM
      left
      refine ⟨rs, hc.2, hfit, hc.2.1, autoA_sv (n := 1) ?_ rfl⟩
      unfold evPA
      simp only [h]
      clear hv
      generalize rowsSV rs = R at *
      simp [c3033, pR, eR, pM, eM]
    · rw [if_neg (fun hh => hc hh.2)] at eM
      right
      refine ⟨[], false, autoA_sv (n := 1) ?_ rfl⟩
      unfold evPA
      simp only [h]
      clear hv
      generalize rowsSV rs = R at *
      simp [c3033, pR, eR, pM, eM]

/-! ### The tree -/

def st3031 (R G acc : List SV) (i : Nat) (z : Box) (bx : List Box) : SA := { nt := 68, tm := [(16, .sv (.int .i64 i)), (15, .sv (.int .i64 G.length)), (14, .sv (.sl G)), (4, accA 43 acc), (2, .ptr 0 0), (0, .sv (.sl R))], lz := none, bx := z :: bx, df := [], lk := true, mu := [39] }

set_option maxRecDepth 100000 in
set_option maxHeartbeats 16000000 in
theorem stepN3031 (E : Env) (cf : CallF) (m : Nat) (F3 F8 : List SV → Option AV) (p3 : E.pure 28 = some F3) (p8 : E.pure 29 = some F8) (R G acc : List SV) (ha : acc.length < 1000) (i : Nat) (hlt : i < G.length) (hgl : G.length < 1000) (lb nm nm2 : List UInt8) (fs ns ss : List SV) (hc : ∀ h : i < G.length, G[i]'h = .agg [.str lb, .str nm, .sl fs]) (b : Bool) (e3 : F3 [.sl R, .str lb] = some (.sv (.tup [.agg [.str nm2, .sl ns, .sl ss], .bool b])))
    (k : SV) (kk : List SV) (hk : k = .agg kk) (hkl : kk.length = 8) (hcan : kk.map SV.can0 = kk) (e8 : F8 [.str nm, .sl fs, .sl ns] = some (.sv k)) (hra : lb ≠ sP4 ∨ ns = []) (z : Box) (bx : List Box) (hT : bx.all boxTame = true) :
    ∃ bx', bx'.all boxTame = true ∧ evCA E cf m b3031_0 (st3031 R G acc i z bx) = some (.normal, st3031 R G (acc ++ [k]) (i + 1) z bx') := by
  subst hk
  have hw : IntKind.i64.wrap ((i : Int) + 1) = ((i + 1 : Nat) : Int) := by rw [IntKind.wrap_i64]; omega
  have hl1 : (acc.length + 1) * 96 ≤ 140737488355328 := by omega
  have hl2 : acc.length + 1 ≤ 140737488355328 := by omega
  refine ⟨bx ++ [.live [.sv (.str lb), .sv (.str nm), .sv (.sl fs)], .live [.sv (.str nm2), .sv (.sl ns), .sv (.sl ss)]], by simp [List.all_append, hT, boxTame, cellTame], ?_⟩
  by_cases hp : lb = sP4
  · have hn : ns = [] := by rcases hra with h | h; exact absurd hp h; exact h
    subst hn
    have hb1 : lb = [112, 114, 111, 99, 52] := hp
    clear hp hra
    subst hb1
    cases acc with
    | nil => simp [st3031, b3031_0, hlt, hc, p3, e3, p8, e8, hkl, hcan, hw, accA]
    | cons y ys =>
      simp only [List.length_cons] at hl1 hl2
      simp [st3031, b3031_0, hlt, hc, p3, e3, p8, e8, hkl, hcan, hw, accA, hl1, hl2]
  · have hb1 : ¬ lb = [112, 114, 111, 99, 52] := hp
    have hb2 : (lb == [112, 114, 111, 99, 52]) = false := by simpa using hb1
    cases acc with
    | nil => simp [st3031, b3031_0, hlt, hc, p3, e3, hb1, hb2, p8, e8, hkl, hcan, hw, accA]
    | cons y ys =>
      simp only [List.length_cons] at hl1 hl2
      simp [st3031, b3031_0, hlt, hc, p3, e3, hb1, hb2, p8, e8, hkl, hcan, hw, accA, hl1, hl2]

set_option maxRecDepth 100000 in
set_option maxHeartbeats 16000000 in
theorem stepS3031 (E : Env) (cf : CallF) (m : Nat) (F3 F8 : List SV → Option AV) (p3 : E.pure 28 = some F3) (p8 : E.pure 29 = some F8) (R G acc : List SV) (ha : acc.length < 1000) (i : Nat) (hlt : i < G.length) (hgl : G.length < 1000) (nm nm2 : List UInt8) (fs ss : List SV) (q0 q1 q2 q3 q4 q5 q6 q7 q8 q9 q10 q11 q12 q13 q14 q15 q16 q17 q18 q19 q20 q21 q22 q23 q24 q25 q26 q27 q28 q29 q30 q31 q32 q33 q34 q35 q36 q37 q38 q39 q40 q41 q42 q43 q44 q45 q46 q47 q48 q49 q50 q51 q52 q53 q54 q55 q56 q57 q58 : Nat) (hc : ∀ h : i < G.length, G[i]'h = .agg [.str sP4, .str nm, .sl fs]) (b : Bool) (e3 : F3 [.sl R, .str sP4] = some (.sv (.tup [.agg [.str nm2, .sl (SV.int .u64 (q0 : Int) :: SV.int .u64 (q1 : Int) :: SV.int .u64 (q2 : Int) :: SV.int .u64 (q3 : Int) :: SV.int .u64 (q4 : Int) :: SV.int .u64 (q5 : Int) :: SV.int .u64 (q6 : Int) :: SV.int .u64 (q7 : Int) :: SV.int .u64 (q8 : Int) :: SV.int .u64 (q9 : Int) :: SV.int .u64 (q10 : Int) :: SV.int .u64 (q11 : Int) :: SV.int .u64 (q12 : Int) :: SV.int .u64 (q13 : Int) :: SV.int .u64 (q14 : Int) :: SV.int .u64 (q15 : Int) :: SV.int .u64 (q16 : Int) :: SV.int .u64 (q17 : Int) :: SV.int .u64 (q18 : Int) :: SV.int .u64 (q19 : Int) :: SV.int .u64 (q20 : Int) :: SV.int .u64 (q21 : Int) :: SV.int .u64 (q22 : Int) :: SV.int .u64 (q23 : Int) :: SV.int .u64 (q24 : Int) :: SV.int .u64 (q25 : Int) :: SV.int .u64 (q26 : Int) :: SV.int .u64 (q27 : Int) :: SV.int .u64 (q28 : Int) :: SV.int .u64 (q29 : Int) :: SV.int .u64 (q30 : Int) :: SV.int .u64 (q31 : Int) :: SV.int .u64 (q32 : Int) :: SV.int .u64 (q33 : Int) :: SV.int .u64 (q34 : Int) :: SV.int .u64 (q35 : Int) :: SV.int .u64 (q36 : Int) :: SV.int .u64 (q37 : Int) :: SV.int .u64 (q38 : Int) :: SV.int .u64 (q39 : Int) :: SV.int .u64 (q40 : Int) :: SV.int .u64 (q41 : Int) :: SV.int .u64 (q42 : Int) :: SV.int .u64 (q43 : Int) :: SV.int .u64 (q44 : Int) :: SV.int .u64 (q45 : Int) :: SV.int .u64 (q46 : Int) :: SV.int .u64 (q47 : Int) :: SV.int .u64 (q48 : Int) :: SV.int .u64 (q49 : Int) :: SV.int .u64 (q50 : Int) :: SV.int .u64 (q51 : Int) :: SV.int .u64 (q52 : Int) :: SV.int .u64 (q53 : Int) :: SV.int .u64 (q54 : Int) :: SV.int .u64 (q55 : Int) :: SV.int .u64 (q56 : Int) :: SV.int .u64 (q57 : Int) :: SV.int .u64 (q58 : Int) :: []), .sl ss], .bool b])))
    (k : SV) (kk : List SV) (hk : k = .agg kk) (hkl : kk.length = 8) (hcan : kk.map SV.can0 = kk) (e8 : F8 [.str nm, .sl fs, .sl (SV.int .u64 (q0 : Int) :: SV.int .u64 (q1 : Int) :: SV.int .u64 (q2 : Int) :: SV.int .u64 (q3 : Int) :: SV.int .u64 (q4 : Int) :: SV.int .u64 (q5 : Int) :: SV.int .u64 (q6 : Int) :: SV.int .u64 (q7 : Int) :: SV.int .u64 (q8 : Int) :: SV.int .u64 (q9 : Int) :: SV.int .u64 (q10 : Int) :: SV.int .u64 (q11 : Int) :: SV.int .u64 (q12 : Int) :: SV.int .u64 (q13 : Int) :: SV.int .u64 (q14 : Int) :: SV.int .u64 (q15 : Int) :: SV.int .u64 (q16 : Int) :: SV.int .u64 (q17 : Int) :: SV.int .u64 (q18 : Int) :: SV.int .u64 (q19 : Int) :: SV.int .u64 (q20 : Int) :: SV.int .u64 (q21 : Int) :: SV.int .u64 (q22 : Int) :: SV.int .u64 (q23 : Int) :: SV.int .u64 (q24 : Int) :: SV.int .u64 (q25 : Int) :: SV.int .u64 (q26 : Int) :: SV.int .u64 (q27 : Int) :: SV.int .u64 (q28 : Int) :: SV.int .u64 (q29 : Int) :: SV.int .u64 (q30 : Int) :: SV.int .u64 (q31 : Int) :: SV.int .u64 (q32 : Int) :: SV.int .u64 (q33 : Int) :: SV.int .u64 (q34 : Int) :: SV.int .u64 (q35 : Int) :: SV.int .u64 (q36 : Int) :: SV.int .u64 (q37 : Int) :: SV.int .u64 (q38 : Int) :: SV.int .u64 (q39 : Int) :: SV.int .u64 (q40 : Int) :: SV.int .u64 (q41 : Int) :: SV.int .u64 (q42 : Int) :: SV.int .u64 (q43 : Int) :: SV.int .u64 (q45 : Int) :: SV.int .u64 (q44 : Int) :: SV.int .u64 (q46 : Int) :: SV.int .u64 (q47 : Int) :: SV.int .u64 (q48 : Int) :: SV.int .u64 (q49 : Int) :: SV.int .u64 (q50 : Int) :: SV.int .u64 (q51 : Int) :: SV.int .u64 (q52 : Int) :: SV.int .u64 (q53 : Int) :: SV.int .u64 (q54 : Int) :: SV.int .u64 (q55 : Int) :: SV.int .u64 (q56 : Int) :: SV.int .u64 (q57 : Int) :: SV.int .u64 (q58 : Int) :: [])] = some (.sv k)) (z : Box) (bx : List Box) (hT : bx.all boxTame = true) :
    ∃ bx', bx'.all boxTame = true ∧ evCA E cf m b3031_0 (st3031 R G acc i z bx) = some (.normal, st3031 R G (acc ++ [k]) (i + 1) z bx') := by
  subst hk
  have hw : IntKind.i64.wrap ((i : Int) + 1) = ((i + 1 : Nat) : Int) := by rw [IntKind.wrap_i64]; omega
  have hl1 : (acc.length + 1) * 96 ≤ 140737488355328 := by omega
  have hl2 : acc.length + 1 ≤ 140737488355328 := by omega
  unfold sP4 at *
  refine ⟨bx ++ [.live [.sv (.str [112, 114, 111, 99, 52]), .sv (.str nm), .sv (.sl fs)], .live [.sv (.str nm2), .lrw (bx.length + 3) 59 1, .sv (.sl ss)], .frz (SV.int .u64 (q0 : Int) :: SV.int .u64 (q1 : Int) :: SV.int .u64 (q2 : Int) :: SV.int .u64 (q3 : Int) :: SV.int .u64 (q4 : Int) :: SV.int .u64 (q5 : Int) :: SV.int .u64 (q6 : Int) :: SV.int .u64 (q7 : Int) :: SV.int .u64 (q8 : Int) :: SV.int .u64 (q9 : Int) :: SV.int .u64 (q10 : Int) :: SV.int .u64 (q11 : Int) :: SV.int .u64 (q12 : Int) :: SV.int .u64 (q13 : Int) :: SV.int .u64 (q14 : Int) :: SV.int .u64 (q15 : Int) :: SV.int .u64 (q16 : Int) :: SV.int .u64 (q17 : Int) :: SV.int .u64 (q18 : Int) :: SV.int .u64 (q19 : Int) :: SV.int .u64 (q20 : Int) :: SV.int .u64 (q21 : Int) :: SV.int .u64 (q22 : Int) :: SV.int .u64 (q23 : Int) :: SV.int .u64 (q24 : Int) :: SV.int .u64 (q25 : Int) :: SV.int .u64 (q26 : Int) :: SV.int .u64 (q27 : Int) :: SV.int .u64 (q28 : Int) :: SV.int .u64 (q29 : Int) :: SV.int .u64 (q30 : Int) :: SV.int .u64 (q31 : Int) :: SV.int .u64 (q32 : Int) :: SV.int .u64 (q33 : Int) :: SV.int .u64 (q34 : Int) :: SV.int .u64 (q35 : Int) :: SV.int .u64 (q36 : Int) :: SV.int .u64 (q37 : Int) :: SV.int .u64 (q38 : Int) :: SV.int .u64 (q39 : Int) :: SV.int .u64 (q40 : Int) :: SV.int .u64 (q41 : Int) :: SV.int .u64 (q42 : Int) :: SV.int .u64 (q43 : Int) :: SV.int .u64 (q45 : Int) :: SV.int .u64 (q44 : Int) :: SV.int .u64 (q46 : Int) :: SV.int .u64 (q47 : Int) :: SV.int .u64 (q48 : Int) :: SV.int .u64 (q49 : Int) :: SV.int .u64 (q50 : Int) :: SV.int .u64 (q51 : Int) :: SV.int .u64 (q52 : Int) :: SV.int .u64 (q53 : Int) :: SV.int .u64 (q54 : Int) :: SV.int .u64 (q55 : Int) :: SV.int .u64 (q56 : Int) :: SV.int .u64 (q57 : Int) :: SV.int .u64 (q58 : Int) :: [])], by simp [List.all_append, hT, boxTame, cellTame], ?_⟩
  cases acc with
  | nil => simp (maxSteps := 4000000) [st3031, b3031_0, boxOf, offBox, hlt, hc, p3, e3, p8, e8, hkl, hcan, hw, accA]
  | cons y ys =>
    simp only [List.length_cons] at hl1 hl2
    simp (maxSteps := 4000000) [st3031, b3031_0, boxOf, offBox, hlt, hc, p3, e3, p8, e8, hkl, hcan, hw, accA, hl1, hl2]

theorem cliOk_want {rs : List RowD} (h : cliOk rs = true) {r : RowD} (hr : r ∈ rs) : nfWant nfCli r.name r.N.length = some r.N.length := by
  unfold cliOk nfOk at h
  simp only [Bool.and_eq_true, List.all_eq_true] at h
  exact (nfOk1_want (h.1 r hr)).1

theorem sw45_length (ns : List Nat) : (sw45 ns).length = ns.length := by
  unfold sw45
  split <;> simp

theorem sP4_ne : sP4 ≠ sWd ∧ sP4 ≠ sRa ∧ sP4 ≠ sOps := by decide

theorem cliOk_p4 {rs : List RowD} (h : cliOk rs = true) {r : RowD} (hr : rowOf rs sP4 = some r) : r.N.length = 59 := by
  obtain ⟨m1, m2⟩ := rowOf_mem hr
  have hw := cliOk_want h m1
  rw [m2] at hw
  obtain ⟨g, hg, hl⟩ : ∃ g, grpOf nfCli sP4 = some g ∧ g.fields.length = 59 := ⟨_, rfl, rfl⟩
  unfold nfWant at hw
  rw [if_neg sP4_ne.1, hg] at hw
  simp only [if_neg sP4_ne.2.1, if_neg sP4_ne.2.2, Option.some.injEq] at hw
  omega

theorem loop3031 (E : Env) (cf : CallF) (m : Nat) (h87 : Has E 28 S3087) (h88 : Has E 29 S3088) (rs : List RowD) (hrl : rowsFit3 rs) (hok : cliOk rs = true) (G : List SV) (hgl : G.length < 1000) (z : Box) :
    ∀ (rest : List Grp) (pre acc : List SV) (bx : List Box) (i k : Nat), bx.all boxTame = true → G = pre ++ grpsSV rest → i = pre.length → acc.length = i → (∀ g ∈ rest, g.fields.length < 1000) → rest.length < k →
      ∃ bx', bx'.all boxTame = true ∧ roundsA (evCA E cf m b3031_0) k (st3031 (rowsSV rs) G acc i z bx) = some (.exit 0, { nt := 68, tm := [(4, accA 43 (acc ++ rest.map (cliKid rs))), (2, .ptr 0 0)], lz := none, bx := z :: bx', df := [], lk := true, mu := [39] }) := by
  obtain ⟨F3, p3, s3⟩ := h87
  obtain ⟨F8, p8, s8⟩ := h88
  intro rest
  induction rest with
  | nil =>
    intro pre acc bx i k hT hsp hi _ _ hk
    obtain ⟨k, rfl⟩ : ∃ k', k = k' + 1 := ⟨k - 1, by omega⟩
    have hlt : ¬ (i < G.length) := by rw [hsp, hi]; simp [grpsSV]
    refine ⟨bx, hT, roundsA_out ?_ (by simp)⟩
    simp [st3031, b3031_0, hlt]
  | cons g rest ih =>
    intro pre acc bx i k hT hsp hi ha hr hk
    obtain ⟨k, rfl⟩ : ∃ k', k = k' + 1 := ⟨k - 1, by omega⟩
    have hlt : i < G.length := by rw [hsp, hi]; simp [grpsSV]
    have hc : ∀ h : i < G.length, G[i]'h = .agg [.str g.label, .str g.name, .sl (strs g.fields)] := by subst hi; subst hsp; simp [grpsSV, Grp.sv]
    have e3 := s3 rs g.label (by have := hrl.1; omega)
    have hst : ∃ bx', bx'.all boxTame = true ∧ evCA E cf m b3031_0 (st3031 (rowsSV rs) G acc i z bx) = some (.normal, st3031 (rowsSV rs) G (acc ++ [cliKid rs g]) (i + 1) z bx') := by
      unfold cliKid
      rw [numsOf_row]
      cases hv : rowOf rs g.label with
      | none =>
        rw [hv] at e3
        have e8 := s8 g.name g.fields [] (hr g (by simp)) (by simp)
        have hsw : (if g.label = sP4 then sw45 [] else []) = ([] : List Nat) := by split <;> rfl
        simp only
        rw [hsw]
        exact stepN3031 E cf m F3 F8 p3 p8 (rowsSV rs) G acc (by omega) i hlt hgl g.label g.name [] (strs g.fields) [] [] hc false e3 _ _ rfl rfl (fillN_can0 _ _ _ _ rfl) e8 (.inr rfl) z bx hT
      | some r =>
        have hrf := hrl.2 r (rowOf_mem hv).1
        simp only
        by_cases hp : g.label = sP4
        · rw [if_pos hp]
          rw [hp] at hv e3 hc
          rw [hv] at e3
          have h59 := cliOk_p4 hok hv
          have e8 := s8 g.name g.fields (sw45 r.N) (hr g (by simp)) (by rw [sw45_length]; have := hrf.2.1; omega)
          obtain ⟨nm2, N, S⟩ := r
          simp only at h59 e3 e8
          clear hv hrf
          obtain ⟨q0, n0, e, h0⟩ := consOf (k := 58) h59
          subst e
          obtain ⟨q1, n1, e, h1⟩ := consOf (k := 57) h0
          subst e
          obtain ⟨q2, n2, e, h2⟩ := consOf (k := 56) h1
          subst e
          obtain ⟨q3, n3, e, h3⟩ := consOf (k := 55) h2
          subst e
          obtain ⟨q4, n4, e, h4⟩ := consOf (k := 54) h3
          subst e
          obtain ⟨q5, n5, e, h5⟩ := consOf (k := 53) h4
          subst e
          obtain ⟨q6, n6, e, h6⟩ := consOf (k := 52) h5
          subst e
          obtain ⟨q7, n7, e, h7⟩ := consOf (k := 51) h6
          subst e
          obtain ⟨q8, n8, e, h8⟩ := consOf (k := 50) h7
          subst e
          obtain ⟨q9, n9, e, h9⟩ := consOf (k := 49) h8
          subst e
          obtain ⟨q10, n10, e, h10⟩ := consOf (k := 48) h9
          subst e
          obtain ⟨q11, n11, e, h11⟩ := consOf (k := 47) h10
          subst e
          obtain ⟨q12, n12, e, h12⟩ := consOf (k := 46) h11
          subst e
          obtain ⟨q13, n13, e, h13⟩ := consOf (k := 45) h12
          subst e
          obtain ⟨q14, n14, e, h14⟩ := consOf (k := 44) h13
          subst e
          obtain ⟨q15, n15, e, h15⟩ := consOf (k := 43) h14
          subst e
          obtain ⟨q16, n16, e, h16⟩ := consOf (k := 42) h15
          subst e
          obtain ⟨q17, n17, e, h17⟩ := consOf (k := 41) h16
          subst e
          obtain ⟨q18, n18, e, h18⟩ := consOf (k := 40) h17
          subst e
          obtain ⟨q19, n19, e, h19⟩ := consOf (k := 39) h18
          subst e
          obtain ⟨q20, n20, e, h20⟩ := consOf (k := 38) h19
          subst e
          obtain ⟨q21, n21, e, h21⟩ := consOf (k := 37) h20
          subst e
          obtain ⟨q22, n22, e, h22⟩ := consOf (k := 36) h21
          subst e
          obtain ⟨q23, n23, e, h23⟩ := consOf (k := 35) h22
          subst e
          obtain ⟨q24, n24, e, h24⟩ := consOf (k := 34) h23
          subst e
          obtain ⟨q25, n25, e, h25⟩ := consOf (k := 33) h24
          subst e
          obtain ⟨q26, n26, e, h26⟩ := consOf (k := 32) h25
          subst e
          obtain ⟨q27, n27, e, h27⟩ := consOf (k := 31) h26
          subst e
          obtain ⟨q28, n28, e, h28⟩ := consOf (k := 30) h27
          subst e
          obtain ⟨q29, n29, e, h29⟩ := consOf (k := 29) h28
          subst e
          obtain ⟨q30, n30, e, h30⟩ := consOf (k := 28) h29
          subst e
          obtain ⟨q31, n31, e, h31⟩ := consOf (k := 27) h30
          subst e
          obtain ⟨q32, n32, e, h32⟩ := consOf (k := 26) h31
          subst e
          obtain ⟨q33, n33, e, h33⟩ := consOf (k := 25) h32
          subst e
          obtain ⟨q34, n34, e, h34⟩ := consOf (k := 24) h33
          subst e
          obtain ⟨q35, n35, e, h35⟩ := consOf (k := 23) h34
          subst e
          obtain ⟨q36, n36, e, h36⟩ := consOf (k := 22) h35
          subst e
          obtain ⟨q37, n37, e, h37⟩ := consOf (k := 21) h36
          subst e
          obtain ⟨q38, n38, e, h38⟩ := consOf (k := 20) h37
          subst e
          obtain ⟨q39, n39, e, h39⟩ := consOf (k := 19) h38
          subst e
          obtain ⟨q40, n40, e, h40⟩ := consOf (k := 18) h39
          subst e
          obtain ⟨q41, n41, e, h41⟩ := consOf (k := 17) h40
          subst e
          obtain ⟨q42, n42, e, h42⟩ := consOf (k := 16) h41
          subst e
          obtain ⟨q43, n43, e, h43⟩ := consOf (k := 15) h42
          subst e
          obtain ⟨q44, n44, e, h44⟩ := consOf (k := 14) h43
          subst e
          obtain ⟨q45, n45, e, h45⟩ := consOf (k := 13) h44
          subst e
          obtain ⟨q46, n46, e, h46⟩ := consOf (k := 12) h45
          subst e
          obtain ⟨q47, n47, e, h47⟩ := consOf (k := 11) h46
          subst e
          obtain ⟨q48, n48, e, h48⟩ := consOf (k := 10) h47
          subst e
          obtain ⟨q49, n49, e, h49⟩ := consOf (k := 9) h48
          subst e
          obtain ⟨q50, n50, e, h50⟩ := consOf (k := 8) h49
          subst e
          obtain ⟨q51, n51, e, h51⟩ := consOf (k := 7) h50
          subst e
          obtain ⟨q52, n52, e, h52⟩ := consOf (k := 6) h51
          subst e
          obtain ⟨q53, n53, e, h53⟩ := consOf (k := 5) h52
          subst e
          obtain ⟨q54, n54, e, h54⟩ := consOf (k := 4) h53
          subst e
          obtain ⟨q55, n55, e, h55⟩ := consOf (k := 3) h54
          subst e
          obtain ⟨q56, n56, e, h56⟩ := consOf (k := 2) h55
          subst e
          obtain ⟨q57, n57, e, h57⟩ := consOf (k := 1) h56
          subst e
          obtain ⟨q58, n58, e, h58⟩ := consOf (k := 0) h57
          subst e
          obtain rfl := List.eq_nil_of_length_eq_zero h58
          exact stepS3031 E cf m F3 F8 p3 p8 (rowsSV rs) G acc (by omega) i hlt hgl g.name nm2 (strs g.fields) (strs S) q0 q1 q2 q3 q4 q5 q6 q7 q8 q9 q10 q11 q12 q13 q14 q15 q16 q17 q18 q19 q20 q21 q22 q23 q24 q25 q26 q27 q28 q29 q30 q31 q32 q33 q34 q35 q36 q37 q38 q39 q40 q41 q42 q43 q44 q45 q46 q47 q48 q49 q50 q51 q52 q53 q54 q55 q56 q57 q58 hc true e3 _ _ rfl rfl (fillN_can0 _ _ _ _ rfl) e8 z bx hT
        · rw [if_neg hp]
          rw [hv] at e3
          have e8 := s8 g.name g.fields r.N (hr g (by simp)) (by have := hrf.2.1; omega)
          exact stepN3031 E cf m F3 F8 p3 p8 (rowsSV rs) G acc (by omega) i hlt hgl g.label g.name r.name (strs g.fields) (u64s r.N) (strs r.S) hc true e3 _ _ rfl rfl (fillN_can0 _ _ _ _ rfl) e8 (.inl hp) z bx hT
    obtain ⟨b1, hT1, hst⟩ := hst
    obtain ⟨bx', hT', he⟩ := ih (pre ++ [g.sv]) (acc ++ [cliKid rs g]) b1 (i + 1) k hT1 (by rw [hsp]; simp [grpsSV]) (by simp [hi]) (by simp [ha]) (fun q hq => hr q (by simp [hq])) (by simp at hk; omega)
    refine ⟨bx', hT', ?_⟩
    rw [roundsA_step hst, he]
    simp

def S3031 (F : List SV → Option AV) : Prop := STreeG cliOk cliTree F

set_option maxHeartbeats 8000000 in
theorem ev3031 (E : Env) (h : E.code 12 = some c3031) (h85 : Has E 26 S3085) (h84 : Has E 25 S3084) (h87 : Has E 28 S3087) (h88 : Has E 29 S3088) (h33 : E.pure 30 = some F33) : S3031 (autoF E 12) := by
  obtain ⟨F1, p1, e1⟩ := h85
  obtain ⟨F2, p2, s2⟩ := h84
  intro l hl hok
  have e2 := s2 nfCli l nfCli_small.1 nfCli_small.2 hl
  have hok' : nfOk nfCli l = true := hok
  rw [hok'] at e2
  unfold S3085 at e1
  obtain ⟨bx', hT, he⟩ := loop3031 E (evF E 20) 20 h87 h88 l hl hok (grpsSV nfCli) (by decide) (.live [.sv (.str []), .sv (.int .i64 0), .sv (.bool false), .sv (.int .i64 0), .sv (.int .u64 0), .sv (.flt .f64 0), .sv (.str []), .sv .nilS]) nfCli [] [] [] 0 20 rfl rfl rfl rfl nfCli_small.2 (by decide)
  have k1 : ∀ s : SA, (tidyBsA 1 bx' s).nt = s.nt := fun s => (tidyBsA_keep bx' 1 (by omega) s hT).1
  have k2 : ∀ s : SA, (tidyBsA 1 bx' s).tm = s.tm := fun s => (tidyBsA_keep bx' 1 (by omega) s hT).2.1
  have k3 : ∀ s : SA, (tidyBsA 1 bx' s).bx[0]? = s.bx[0]? := fun s => (tidyBsA_keep bx' 1 (by omega) s hT).2.2.2.2
  refine autoA_sv (n := 20) ?_ rfl
  unfold evPA
  simp only [h]
  unfold cliTree
  unfold nodeV at *
  have hgl : (grpsSV nfCli).length = 5 := rfl
  rw [List.nil_append] at he
  obtain ⟨y, ys, hys⟩ : ∃ y ys, nfCli.map (cliKid l) = y :: ys := ⟨_, _, rfl⟩
  rw [hys] at he ⊢
  clear hys
  simp only [st3031, accA, hgl, Int.ofNat_zero, Int.natCast_zero] at he
  rw [show ((5 : Nat) : Int) = 5 from rfl] at he
  generalize rowsSV l = R at *
  generalize grpsSV nfCli = G at *
  simp [c3031, p1, e1, p2, e2, hgl, he, h33, F33, nodeV, k1, k2, k3]

end Go.Ev
