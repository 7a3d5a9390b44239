/- Tables of sockets: the reference's reading. -/
/- Tables of sockets: the reference's reading, one line. -/
/- Tables of sockets: the reference's reading, one line. -/
/- Tables of sockets: the reference's reading, whole. -/
/- Tables of sockets: the reference, whole. -/
import Derived.Test.YtnpkdihdpgfemaaGreatDoorKE
import Derived.Test.YtnpkdihdpgfemaaGreatDoorKD
import Derived.Test.YtnpkdihdpgfemaaGreatDoorXA
set_option linter.unusedSimpArgs false
set_option linter.unusedVariables false
namespace Go.Ev
open Go.Proofs

def bad1075 : SA := { nt := 190, tm := [(5, .sv (.bool false)), (4, .sv .nilS)], lz := none, bx := [], df := [] }

theorem loop1075_0 (E : Env) (cf : CallF) (m : Nat) (h23 : Has E 126 S123) (xs : List SV) (hxl : xs.length < 1000) (a1 a6 a10 a11 a14 a31 a32 a33 : AV) :
    ∀ (rest : List (List UInt8)) (pre acc : List SV) (j k : Nat), xs = pre ++ strs rest → j = pre.length → acc.length = j → (∀ x ∈ rest, x.length < 1000000000) → rest.length < k →
      roundsA (evCA E cf m b1075_0) k { nt := 190, tm := [(130, .sv (.int .i64 j)), (129, .sv (.int .i64 xs.length)), (128, .own 9 xs), (33, a33), (32, a32), (31, a31), (16, accA 39 acc), (14, a14), (11, a11), (10, a10), (6, a6), (1, a1)], lz := none, bx := [], df := [] } =
        match hexsV rest with
        | some ms => some (.exit 2, { nt := 190, tm := [(33, a33), (32, a32), (31, a31), (16, accA 39 (acc ++ u64s ms)), (14, a14), (11, a11), (10, a10), (6, a6), (1, a1)], lz := none, bx := [], df := [] })
        | none => some (.ret, bad1075) := by
  obtain ⟨F, hp, hF⟩ := h23
  intro rest
  induction rest with
  | nil =>
    intro pre acc j k hsp hj _ _ hk
    obtain ⟨k, rfl⟩ : ∃ k', k = k' + 1 := ⟨k - 1, by omega⟩
    have hlt : ¬ (j < xs.length) := by rw [hsp, hj]; simp [strs]
    refine roundsA_out ?_ (by simp)
    simp [b1075_0, hlt, u64s]
  | cons c rest ih =>
    intro pre acc j k hsp hj ha hr hk
    obtain ⟨k, rfl⟩ : ∃ k', k = k' + 1 := ⟨k - 1, by omega⟩
    have hlt : j < xs.length := by rw [hsp, hj]; simp [strs]
    have hc : ∀ h : j < xs.length, xs[j]'h = .str c := by subst hj; subst hsp; simp [strs]
    have hw : IntKind.i64.wrap ((j : Int) + 1) = ((j + 1 : Nat) : Int) := by rw [IntKind.wrap_i64]; omega
    have hFc := hF c (by have := hr c (by simp); omega)
    have hl1 : (acc.length + 1) * 8 ≤ 140737488355328 := by omega
    have hl2 : acc.length + 1 ≤ 140737488355328 := by omega
    simp only [hexsV]
    cases hv : hexV c with
    | none =>
      rw [hv] at hFc
      refine roundsA_out ?_ (by simp)
      cases hn : numV 16 0 c with
      | none => simp only [hn] at hFc; simp [bad1075, b1075_0, hlt, hc, hp, hFc]
      | some q => simp only [hn] at hFc; simp [bad1075, b1075_0, hlt, hc, hp, hFc]
    | some v =>
      simp only [hv] at hFc
      have he := ih (pre ++ [.str c]) (acc ++ [.int .u64 (v : Int)]) (j + 1) k (by rw [hsp]; simp [strs]) (by simp [hj]) (by simp [ha]) (fun x hx => hr x (by simp [hx])) (by simp at hk; omega)
      have hst : evCA E cf m b1075_0 { nt := 190, tm := [(130, .sv (.int .i64 j)), (129, .sv (.int .i64 xs.length)), (128, .own 9 xs), (33, a33), (32, a32), (31, a31), (16, accA 39 acc), (14, a14), (11, a11), (10, a10), (6, a6), (1, a1)], lz := none, bx := [], df := [] } = some (.normal, { nt := 190, tm := [(130, .sv (.int .i64 ((j + 1 : Nat) : Int))), (129, .sv (.int .i64 xs.length)), (128, .own 9 xs), (33, a33), (32, a32), (31, a31), (16, accA 39 (acc ++ [.int .u64 (v : Int)])), (14, a14), (11, a11), (10, a10), (6, a6), (1, a1)], lz := none, bx := [], df := [] }) := by
        cases acc with
        | nil => simp [b1075_0, hlt, hc, hp, hFc, hw, accA]
        | cons y ys =>
          simp only [List.length_cons] at hl1 hl2
          simp [b1075_0, hlt, hc, hp, hFc, hw, accA, hl1, hl2]
      rw [roundsA_step hst, he]
      cases hexsV rest with
      | none => rfl
      | some ms => simp [u64s]

theorem len_two {l : List (List UInt8)} (h : l.length = 2) : ∃ a b, l = [a, b] := by
  match l, h with
  | [a, b], _ => exact ⟨a, b, rfl⟩

theorem skV_n {g0 g1 g2 g3 g4 g7 g9 g12 : List UInt8} (h : ¬ ((partG 58 [] g1).length = 2 ∧ (partG 58 [] g2).length = 2 ∧ (partG 58 [] g4).length = 2)) : skV g0 g1 g2 g3 g4 g7 g9 g12 = none := by
  unfold skV
  split
  · rename_i e1 e2 e4
    exact absurd ⟨by rw [e1]; rfl, by rw [e2]; rfl, by rw [e4]; rfl⟩ h
  · rfl

theorem skV_y {g0 g1 g2 g3 g4 g7 g9 g12 a0 a1 b0 b1 q0 q1 : List UInt8} (e1 : partG 58 [] g1 = [a0, a1]) (e2 : partG 58 [] g2 = [b0, b1]) (e4 : partG 58 [] g4 = [q0, q1]) : skV g0 g1 g2 g3 g4 g7 g9 g12 = match decsV [g0.take (g0.length - 1), g7, g9, g12] with
    | some [d0, d1, d2, d3] => (match hexsV [a1, b1, g3, q0, q1] with
      | some [h0, h1, h2, h3, h4] => some ⟨[], [d0, h0, h1, h2, h3, h4, d1, d2, d3], [a0, b0]⟩
      | _ => none)
    | _ => none := by
  unfold skV
  rw [e1, e2, e4]
  rfl

theorem hexsV_five {a b c e g : List UInt8} {l : List Nat} (h : hexsV [a, b, c, e, g] = some l) : ∃ x y z w v, l = [x, y, z, w, v] ∧ True := by
  simp only [hexsV] at h
  cases ha : hexV a with
  | none => rw [ha] at h; simp at h
  | some x =>
    cases hb : hexV b with
    | none => rw [ha, hb] at h; simp at h
    | some y =>
      cases hc : hexV c with
      | none => rw [ha, hb, hc] at h; simp at h
      | some z =>
        cases he : hexV e with
        | none => rw [ha, hb, hc, he] at h; simp at h
        | some w =>
          cases hg : hexV g with
          | none => rw [ha, hb, hc, he, hg] at h; simp at h
          | some v =>
            rw [ha, hb, hc, he, hg] at h
            simp only [Option.some.injEq] at h
            exact ⟨x, y, z, w, v, h.symm, trivial⟩

def st1075 (d : Bool) (xs acc : List SV) (i : Nat) : SA := { nt := 190, tm := [(33, .sv (.int .i64 i)), (32, .sv (.int .i64 xs.length)), (31, .sv (.sl xs)), (6, accA 35 acc), (1, .sv (.bool d))], lz := none, bx := [], df := [] }

end Go.Ev

set_option linter.unusedSimpArgs false
set_option linter.unusedVariables false
namespace Go.Ev
open Go.Proofs

set_option maxHeartbeats 16000000 in
theorem step1075_true (E : Env) (cf : CallF) (m : Nat) (hm : 10 < m) (h52 : E.pure 65 = some F52) (h76 : E.pure 124 = some F76) (h97 : E.pure 97 = some F77) (h23 : Has E 126 S123) (h25 : Has E 125 S1125) (xs acc : List SV) (ha : acc.length < 1000000) (i : Nat) (hlt : i < xs.length) (hxl : xs.length < 1000000000) (c : List UInt8) (hcl : c.length < 1000000) (hc : ∀ h : i < xs.length, xs[i]'h = .str c) :
    evCA E cf m b1075_1 (st1075 true xs acc i) = match skLineV true (fieldsL c) with
      | some r => some (.normal, st1075 true xs (acc ++ [r.sv]) (i + 1))
      | none => some (.ret, bad1075) := by
  obtain ⟨FP, hpP, hP⟩ := h25
  have hF := F52_eq c (by omega)
  obtain ⟨_, hsh1, hsh2⟩ := fieldsV_shape c
  have hw : IntKind.i64.wrap ((i : Int) + 1) = ((i + 1 : Nat) : Int) := by rw [IntKind.wrap_i64]; omega
  have hl1 : (acc.length + 1) * 64 ≤ 140737488355328 := by omega
  have hl2 : acc.length + 1 ≤ 140737488355328 := by omega
  by_cases hlen : (fieldsL c).length = 13
  rotate_left
  · have hn : skLineV true (fieldsL c) = none := by unfold skLineV; rw [if_neg (by simp [hlen])]
    rw [hn]
    have hsl : (strs (fieldsL c)).length = (fieldsL c).length := strs_length _
    have hb : (((fieldsL c).length : Int) != 13) = true := by simp; omega
    generalize strs (fieldsL c) = fs at hF hsl
    simp [st1075, bad1075, b1075_1, hlt, hc, h52, hF, hsl, hb]
  generalize fieldsL c = f at *
  have hgl : ∀ x ∈ f, x.length < 1000000 := fun x hx => by have := hsh2 x hx; omega
  match f, hlen with
  | [g0, g1, g2, g3, g4, g5, g6, g7, g8, g9, g10, g11, g12], _ =>
    have hE : F76 [.str g0, .str [58]] = some (.sv (.bool (endsC g0))) := by
      show onlyIf _ _ = _
      rw [onlyIf_pos (by have := hgl g0 (by simp); omega)]
      unfold endsC; simp
    simp only [strs, List.map_cons, List.map_nil] at hF
    cases he : endsC g0 with
    | false =>
      have hn : skLineV true [g0, g1, g2, g3, g4, g5, g6, g7, g8, g9, g10, g11, g12] = none := by unfold skLineV; rw [if_neg (by simp [skFld, he])]
      rw [hn]
      rw [he] at hE
      simp [st1075, bad1075, b1075_1, hlt, hc, h52, hF, h76, hE]
    | true =>
      rw [he] at hE
      have hv : skLineV true [g0, g1, g2, g3, g4, g5, g6, g7, g8, g9, g10, g11, g12] = skV g0 g1 g2 g3 g4 g7 g9 g12 := by
        unfold skLineV
        rw [if_pos (by simp [skFld, he])]
        rfl
      rw [hv]
      have hp1 := hP g1 58 (by have := hgl g1 (by simp); omega)
      have hp2 := hP g2 58 (by have := hgl g2 (by simp); omega)
      have hp4 := hP g4 58 (by have := hgl g4 (by simp); omega)
      have k1 := partG_mem 58 g1 []; have k2 := partG_mem 58 g2 []; have k4 := partG_mem 58 g4 []
      have z1 := hgl g1 (by simp); have z2 := hgl g2 (by simp); have z4 := hgl g4 (by simp); have z0 := hgl g0 (by simp); have z3 := hgl g3 (by simp); have z7 := hgl g7 (by simp); have z9 := hgl g9 (by simp)
      have z12 := hgl g12 (by simp)
      rw [show (58 : UInt8).toNat = 58 from rfl] at hp1 hp2 hp4
      rw [show (((58 : Nat)) : Int) = 58 from rfl] at hp1 hp2 hp4
      by_cases e1 : (partG 58 [] g1).length = 2
      rotate_left
      · have hb : (((partG 58 [] g1).length : Int) != 2) = true := by simp; omega
        have hsl := strs_length (partG 58 [] g1)
        rw [skV_n (fun h => e1 h.1)]
        generalize strs (partG 58 [] g1) = s1 at *
        generalize strs (partG 58 [] g2) = s2 at *
        generalize strs (partG 58 [] g4) = s4 at *
        simp [st1075, bad1075, b1075_1, hlt, hc, h52, hF, h76, hE, hpP, hp1, hp2, hp4, hsl, hb]
      by_cases e2 : (partG 58 [] g2).length = 2
      rotate_left
      · have hb : (((partG 58 [] g2).length : Int) != 2) = true := by simp; omega
        have hb1 : (((partG 58 [] g1).length : Int) != 2) = false := by simp [e1]
        have hsl := strs_length (partG 58 [] g1)
        have hsl2 := strs_length (partG 58 [] g2)
        rw [skV_n (fun h => e2 h.2.1)]
        generalize strs (partG 58 [] g1) = s1 at *
        generalize strs (partG 58 [] g2) = s2 at *
        generalize strs (partG 58 [] g4) = s4 at *
        simp [st1075, bad1075, b1075_1, hlt, hc, h52, hF, h76, hE, hpP, hp1, hp2, hp4, hsl, hsl2, hb, e1]
      by_cases e4 : (partG 58 [] g4).length = 2
      rotate_left
      · have hb : (((partG 58 [] g4).length : Int) != 2) = true := by simp; omega
        have hsl := strs_length (partG 58 [] g1)
        have hsl2 := strs_length (partG 58 [] g2)
        have hsl4 := strs_length (partG 58 [] g4)
        rw [skV_n (fun h => e4 h.2.2)]
        generalize strs (partG 58 [] g1) = s1 at *
        generalize strs (partG 58 [] g2) = s2 at *
        generalize strs (partG 58 [] g4) = s4 at *
        simp [st1075, bad1075, b1075_1, hlt, hc, h52, hF, h76, hE, hpP, hp1, hp2, hp4, hsl, hsl2, hsl4, hb, e1, e2]
      obtain ⟨a0, a1, hP1⟩ := len_two e1
      obtain ⟨b0, b1, hP2⟩ := len_two e2
      obtain ⟨q0, q1, hP4⟩ := len_two e4
      rw [skV_y hP1 hP2 hP4]
      rw [hP1] at hp1 k1; rw [hP2] at hp2 k2; rw [hP4] at hp4 k4
      · simp only [strs, List.map_cons, List.map_nil] at hp1 hp2 hp4
        have y1 := k1 a1 (by simp); have y2 := k2 b1 (by simp); have y4 := k4 q0 (by simp); have y5 := k4 q1 (by simp)
        simp only [List.length_nil, Nat.zero_add] at y1 y2 y4 y5
        have hD := F77_eq [g0.take (g0.length - 1), g7, g9, g12] (by simp) (fun s hs => by
          simp only [List.mem_cons, List.not_mem_nil, or_false] at hs
          rcases hs with rfl | rfl | rfl | rfl
          · rw [List.length_take]; omega
          all_goals first | omega | (simp))
        simp only [strs, List.map_cons, List.map_nil] at hD
        have h0l : 0 < g0.length := by
          unfold endsC at he
          simp only [Bool.and_eq_true, decide_eq_true_eq] at he
          omega
        have hw0 : IntKind.i64.wrap ((g0.length : Int) - 1) = ((g0.length - 1 : Nat) : Int) := by rw [IntKind.wrap_i64]; omega
        have hle0 : g0.length - 1 ≤ g0.length := by omega
        generalize hgl1 : g0.length - 1 = L1 at *
        cases hdv : decsV [g0.take L1, g7, g9, g12] with
        | none =>
          rw [hdv] at hD
          simp only at hD ⊢
          simp [st1075, bad1075, b1075_1, hlt, hc, h52, hF, h76, hE, hpP, hp1, hp2, hp4, h97, hD, hw0, hle0]
        | some ds =>
          obtain ⟨d0, d1, d2, d3, rfl⟩ : ∃ d0 d1 d2 d3, ds = [d0, d1, d2, d3] := by
            have := (decsV_fit hdv).1
            match ds, this with
            | [d0, d1, d2, d3], _ => exact ⟨d0, d1, d2, d3, rfl⟩
          rw [hdv] at hD
          simp only [u64s, List.map_cons, List.map_nil] at hD
          have hin := loop1075_0 E cf m h23 (strs [a1, b1, g3, q0, q1]) (by simp [strs]) (.sv (.bool true)) (accA 35 acc) (.sv (.sl [.str a0, .str a1])) (.sv (.sl [.str b0, .str b1])) (.sv (.sl [.int .u64 (d0 : Int), .int .u64 (d1 : Int), .int .u64 (d2 : Int), .int .u64 (d3 : Int)])) (.sv (.sl xs)) (.sv (.int .i64 xs.length)) (.sv (.int .i64 i)) [a1, b1, g3, q0, q1] [] [] 0 m rfl rfl rfl (fun x hx => by
            simp only [List.mem_cons, List.not_mem_nil, or_false] at hx
            rcases hx with rfl | rfl | rfl | rfl | rfl <;> omega) (by simp; omega)
          simp only [strs, List.map_cons, List.map_nil, List.length_cons, List.length_nil, show accA 39 [] = .sv .nilS from rfl, List.nil_append] at hin
          simp only [Nat.zero_add, Nat.reduceAdd, Int.cast_ofNat_Int, Int.ofNat_eq_natCast] at hin
          cases hxv : hexsV [a1, b1, g3, q0, q1] with
          | none =>
            rw [hxv] at hin
            simp only [bad1075] at hin
            simp [st1075, bad1075, b1075_1, hlt, hc, h52, hF, h76, hE, hpP, hp1, hp2, hp4, h97, hD, hw0, hle0, hin, hxv]
          | some hs =>
            obtain ⟨x0, x1, x2, x3, x4, rfl⟩ : ∃ x0 x1 x2 x3 x4, hs = [x0, x1, x2, x3, x4] := by
              obtain ⟨x, y, z, w, v, hl, _⟩ := hexsV_five hxv
              exact ⟨x, y, z, w, v, hl⟩
            rw [hxv] at hin
            simp only [u64s, List.map_cons, List.map_nil, accA] at hin
            cases acc with
            | nil =>
              simp only [accA] at hin
              simp [st1075, b1075_1, hlt, hc, h52, hF, h76, hE, hpP, hp1, hp2, hp4, h97, hD, hw0, hle0, hin, hxv, hw, accA, RowD.sv, u64s, strs]
            | cons y ys =>
              simp only [List.length_cons] at hl1 hl2
              simp only [accA] at hin
              simp [st1075, b1075_1, hlt, hc, h52, hF, h76, hE, hpP, hp1, hp2, hp4, h97, hD, hw0, hle0, hin, hxv, hw, accA, RowD.sv, u64s, strs, hl1, hl2]

end Go.Ev

set_option linter.unusedSimpArgs false
set_option linter.unusedVariables false
namespace Go.Ev
open Go.Proofs

set_option maxHeartbeats 16000000 in
theorem step1075_false (E : Env) (cf : CallF) (m : Nat) (hm : 10 < m) (h52 : E.pure 65 = some F52) (h76 : E.pure 124 = some F76) (h97 : E.pure 97 = some F77) (h23 : Has E 126 S123) (h25 : Has E 125 S1125) (xs acc : List SV) (ha : acc.length < 1000000) (i : Nat) (hlt : i < xs.length) (hxl : xs.length < 1000000000) (c : List UInt8) (hcl : c.length < 1000000) (hc : ∀ h : i < xs.length, xs[i]'h = .str c) :
    evCA E cf m b1075_1 (st1075 false xs acc i) = match skLineV false (fieldsL c) with
      | some r => some (.normal, st1075 false xs (acc ++ [r.sv]) (i + 1))
      | none => some (.ret, bad1075) := by
  obtain ⟨FP, hpP, hP⟩ := h25
  have hF := F52_eq c (by omega)
  obtain ⟨_, hsh1, hsh2⟩ := fieldsV_shape c
  have hw : IntKind.i64.wrap ((i : Int) + 1) = ((i + 1 : Nat) : Int) := by rw [IntKind.wrap_i64]; omega
  have hl1 : (acc.length + 1) * 64 ≤ 140737488355328 := by omega
  have hl2 : acc.length + 1 ≤ 140737488355328 := by omega
  by_cases hlen : (fieldsL c).length = 17
  rotate_left
  · have hn : skLineV false (fieldsL c) = none := by unfold skLineV; rw [if_neg (by simp [hlen])]
    rw [hn]
    have hsl : (strs (fieldsL c)).length = (fieldsL c).length := strs_length _
    have hb : (((fieldsL c).length : Int) != 17) = true := by simp; omega
    generalize strs (fieldsL c) = fs at hF hsl
    simp [st1075, bad1075, b1075_1, hlt, hc, h52, hF, hsl, hb]
  generalize fieldsL c = f at *
  have hgl : ∀ x ∈ f, x.length < 1000000 := fun x hx => by have := hsh2 x hx; omega
  match f, hlen with
  | [g0, g1, g2, g3, g4, g5, g6, g7, g8, g9, g10, g11, g12, g13, g14, g15, g16], _ =>
    have hE : F76 [.str g0, .str [58]] = some (.sv (.bool (endsC g0))) := by
      show onlyIf _ _ = _
      rw [onlyIf_pos (by have := hgl g0 (by simp); omega)]
      unfold endsC; simp
    simp only [strs, List.map_cons, List.map_nil] at hF
    cases he : endsC g0 with
    | false =>
      have hn : skLineV false [g0, g1, g2, g3, g4, g5, g6, g7, g8, g9, g10, g11, g12, g13, g14, g15, g16] = none := by unfold skLineV; rw [if_neg (by simp [skFld, he])]
      rw [hn]
      rw [he] at hE
      simp [st1075, bad1075, b1075_1, hlt, hc, h52, hF, h76, hE]
    | true =>
      rw [he] at hE
      have hv : skLineV false [g0, g1, g2, g3, g4, g5, g6, g7, g8, g9, g10, g11, g12, g13, g14, g15, g16] = skV g0 g1 g2 g3 g4 g7 g9 [48] := by
        unfold skLineV
        rw [if_pos (by simp [skFld, he])]
        rfl
      rw [hv]
      have hp1 := hP g1 58 (by have := hgl g1 (by simp); omega)
      have hp2 := hP g2 58 (by have := hgl g2 (by simp); omega)
      have hp4 := hP g4 58 (by have := hgl g4 (by simp); omega)
      have k1 := partG_mem 58 g1 []; have k2 := partG_mem 58 g2 []; have k4 := partG_mem 58 g4 []
      have z1 := hgl g1 (by simp); have z2 := hgl g2 (by simp); have z4 := hgl g4 (by simp); have z0 := hgl g0 (by simp); have z3 := hgl g3 (by simp); have z7 := hgl g7 (by simp); have z9 := hgl g9 (by simp)
      
      rw [show (58 : UInt8).toNat = 58 from rfl] at hp1 hp2 hp4
      rw [show (((58 : Nat)) : Int) = 58 from rfl] at hp1 hp2 hp4
      by_cases e1 : (partG 58 [] g1).length = 2
      rotate_left
      · have hb : (((partG 58 [] g1).length : Int) != 2) = true := by simp; omega
        have hsl := strs_length (partG 58 [] g1)
        rw [skV_n (fun h => e1 h.1)]
        generalize strs (partG 58 [] g1) = s1 at *
        generalize strs (partG 58 [] g2) = s2 at *
        generalize strs (partG 58 [] g4) = s4 at *
        simp [st1075, bad1075, b1075_1, hlt, hc, h52, hF, h76, hE, hpP, hp1, hp2, hp4, hsl, hb]
      by_cases e2 : (partG 58 [] g2).length = 2
      rotate_left
      · have hb : (((partG 58 [] g2).length : Int) != 2) = true := by simp; omega
        have hb1 : (((partG 58 [] g1).length : Int) != 2) = false := by simp [e1]
        have hsl := strs_length (partG 58 [] g1)
        have hsl2 := strs_length (partG 58 [] g2)
        rw [skV_n (fun h => e2 h.2.1)]
        generalize strs (partG 58 [] g1) = s1 at *
        generalize strs (partG 58 [] g2) = s2 at *
        generalize strs (partG 58 [] g4) = s4 at *
        simp [st1075, bad1075, b1075_1, hlt, hc, h52, hF, h76, hE, hpP, hp1, hp2, hp4, hsl, hsl2, hb, e1]
      by_cases e4 : (partG 58 [] g4).length = 2
      rotate_left
      · have hb : (((partG 58 [] g4).length : Int) != 2) = true := by simp; omega
        have hsl := strs_length (partG 58 [] g1)
        have hsl2 := strs_length (partG 58 [] g2)
        have hsl4 := strs_length (partG 58 [] g4)
        rw [skV_n (fun h => e4 h.2.2)]
        generalize strs (partG 58 [] g1) = s1 at *
        generalize strs (partG 58 [] g2) = s2 at *
        generalize strs (partG 58 [] g4) = s4 at *
        simp [st1075, bad1075, b1075_1, hlt, hc, h52, hF, h76, hE, hpP, hp1, hp2, hp4, hsl, hsl2, hsl4, hb, e1, e2]
      obtain ⟨a0, a1, hP1⟩ := len_two e1
      obtain ⟨b0, b1, hP2⟩ := len_two e2
      obtain ⟨q0, q1, hP4⟩ := len_two e4
      rw [skV_y hP1 hP2 hP4]
      rw [hP1] at hp1 k1; rw [hP2] at hp2 k2; rw [hP4] at hp4 k4
      · simp only [strs, List.map_cons, List.map_nil] at hp1 hp2 hp4
        have y1 := k1 a1 (by simp); have y2 := k2 b1 (by simp); have y4 := k4 q0 (by simp); have y5 := k4 q1 (by simp)
        simp only [List.length_nil, Nat.zero_add] at y1 y2 y4 y5
        have hD := F77_eq [g0.take (g0.length - 1), g7, g9, [48]] (by simp) (fun s hs => by
          simp only [List.mem_cons, List.not_mem_nil, or_false] at hs
          rcases hs with rfl | rfl | rfl | rfl
          · rw [List.length_take]; omega
          all_goals first | omega | (simp))
        simp only [strs, List.map_cons, List.map_nil] at hD
        have h0l : 0 < g0.length := by
          unfold endsC at he
          simp only [Bool.and_eq_true, decide_eq_true_eq] at he
          omega
        have hw0 : IntKind.i64.wrap ((g0.length : Int) - 1) = ((g0.length - 1 : Nat) : Int) := by rw [IntKind.wrap_i64]; omega
        have hle0 : g0.length - 1 ≤ g0.length := by omega
        generalize hgl1 : g0.length - 1 = L1 at *
        cases hdv : decsV [g0.take L1, g7, g9, [48]] with
        | none =>
          rw [hdv] at hD
          simp only at hD ⊢
          simp [st1075, bad1075, b1075_1, hlt, hc, h52, hF, h76, hE, hpP, hp1, hp2, hp4, h97, hD, hw0, hle0]
        | some ds =>
          obtain ⟨d0, d1, d2, d3, rfl⟩ : ∃ d0 d1 d2 d3, ds = [d0, d1, d2, d3] := by
            have := (decsV_fit hdv).1
            match ds, this with
            | [d0, d1, d2, d3], _ => exact ⟨d0, d1, d2, d3, rfl⟩
          rw [hdv] at hD
          simp only [u64s, List.map_cons, List.map_nil] at hD
          have hin := loop1075_0 E cf m h23 (strs [a1, b1, g3, q0, q1]) (by simp [strs]) (.sv (.bool false)) (accA 35 acc) (.sv (.sl [.str a0, .str a1])) (.sv (.sl [.str b0, .str b1])) (.sv (.sl [.int .u64 (d0 : Int), .int .u64 (d1 : Int), .int .u64 (d2 : Int), .int .u64 (d3 : Int)])) (.sv (.sl xs)) (.sv (.int .i64 xs.length)) (.sv (.int .i64 i)) [a1, b1, g3, q0, q1] [] [] 0 m rfl rfl rfl (fun x hx => by
            simp only [List.mem_cons, List.not_mem_nil, or_false] at hx
            rcases hx with rfl | rfl | rfl | rfl | rfl <;> omega) (by simp; omega)
          simp only [strs, List.map_cons, List.map_nil, List.length_cons, List.length_nil, show accA 39 [] = .sv .nilS from rfl, List.nil_append] at hin
          simp only [Nat.zero_add, Nat.reduceAdd, Int.cast_ofNat_Int, Int.ofNat_eq_natCast] at hin
          cases hxv : hexsV [a1, b1, g3, q0, q1] with
          | none =>
            rw [hxv] at hin
            simp only [bad1075] at hin
            simp [st1075, bad1075, b1075_1, hlt, hc, h52, hF, h76, hE, hpP, hp1, hp2, hp4, h97, hD, hw0, hle0, hin, hxv]
          | some hs =>
            obtain ⟨x0, x1, x2, x3, x4, rfl⟩ : ∃ x0 x1 x2 x3 x4, hs = [x0, x1, x2, x3, x4] := by
              obtain ⟨x, y, z, w, v, hl, _⟩ := hexsV_five hxv
              exact ⟨x, y, z, w, v, hl⟩
            rw [hxv] at hin
            simp only [u64s, List.map_cons, List.map_nil, accA] at hin
            cases acc with
            | nil =>
              simp only [accA] at hin
              simp [st1075, b1075_1, hlt, hc, h52, hF, h76, hE, hpP, hp1, hp2, hp4, h97, hD, hw0, hle0, hin, hxv, hw, accA, RowD.sv, u64s, strs]
            | cons y ys =>
              simp only [List.length_cons] at hl1 hl2
              simp only [accA] at hin
              simp [st1075, b1075_1, hlt, hc, h52, hF, h76, hE, hpP, hp1, hp2, hp4, h97, hD, hw0, hle0, hin, hxv, hw, accA, RowD.sv, u64s, strs, hl1, hl2]

end Go.Ev

set_option linter.unusedSimpArgs false
set_option linter.unusedVariables false
namespace Go.Ev
open Go.Proofs

theorem step1075 (E : Env) (cf : CallF) (m : Nat) (hm : 10 < m) (h52 : E.pure 65 = some F52) (h76 : E.pure 124 = some F76) (h97 : E.pure 97 = some F77) (h23 : Has E 126 S123) (h25 : Has E 125 S1125) (d : Bool) (xs acc : List SV) (ha : acc.length < 1000000) (i : Nat) (hlt : i < xs.length) (hxl : xs.length < 1000000000) (c : List UInt8) (hcl : c.length < 1000000) (hc : ∀ h : i < xs.length, xs[i]'h = .str c) :
    evCA E cf m b1075_1 (st1075 d xs acc i) = match skLineV d (fieldsL c) with
      | some r => some (.normal, st1075 d xs (acc ++ [r.sv]) (i + 1))
      | none => some (.ret, bad1075) := by
  cases d
  · exact step1075_false E cf m hm h52 h76 h97 h23 h25 xs acc ha i hlt hxl c hcl hc
  · exact step1075_true E cf m hm h52 h76 h97 h23 h25 xs acc ha i hlt hxl c hcl hc

theorem loop1075_1 (E : Env) (cf : CallF) (m : Nat) (hm : 10 < m) (h52 : E.pure 65 = some F52) (h76 : E.pure 124 = some F76) (h97 : E.pure 97 = some F77) (h23 : Has E 126 S123) (h25 : Has E 125 S1125) (d : Bool) (xs : List SV) (hxl : xs.length < 1000000) :
    ∀ (rest : List (List UInt8)) (pre acc : List SV) (i k : Nat), xs = pre ++ strs rest → i = pre.length → acc.length = i → (∀ x ∈ rest, x.length < 1000000) → rest.length < k →
      roundsA (evCA E cf m b1075_1) k (st1075 d xs acc i) =
        match skTabV d rest with
        | some rs => some (.exit 0, { nt := 190, tm := [(6, accA 35 (acc ++ rowsSV rs)), (1, .sv (.bool d))], lz := none, bx := [], df := [] })
        | none => some (.ret, bad1075) := by
  intro rest
  induction rest with
  | nil =>
    intro pre acc i k hsp hi _ _ hk
    obtain ⟨k, rfl⟩ : ∃ k', k = k' + 1 := ⟨k - 1, by omega⟩
    have hlt : ¬ (i < xs.length) := by rw [hsp, hi]; simp [strs]
    refine roundsA_out ?_ (by simp [skTabV])
    simp [b1075_1, st1075, hlt, skTabV, rowsSV]
  | cons c rest ih =>
    intro pre acc i k hsp hi ha hr hk
    obtain ⟨k, rfl⟩ : ∃ k', k = k' + 1 := ⟨k - 1, by omega⟩
    have hlt : i < xs.length := by rw [hsp, hi]; simp [strs]
    have hc : ∀ h : i < xs.length, xs[i]'h = .str c := by subst hi; subst hsp; simp [strs]
    have hst := step1075 E cf m hm h52 h76 h97 h23 h25 d xs acc (by omega) i hlt (by omega) c (hr c (by simp)) hc
    simp only [skTabV]
    cases hv : skLineV d (fieldsL c) with
    | none =>
      rw [hv] at hst
      exact roundsA_out hst (by simp)
    | some r =>
      rw [hv] at hst
      rw [roundsA_step hst, ih (pre ++ [.str c]) (acc ++ [r.sv]) (i + 1) k (by rw [hsp]; simp [strs]) (by simp [hi]) (by simp [ha]) (fun x hx => hr x (by simp [hx])) (by simp at hk; omega)]
      cases skTabV d rest with
      | none => rfl
      | some rs => simp [rowsSV]

theorem hexsV_five' {a b c e g : List UInt8} {l : List Nat} (h : hexsV [a, b, c, e, g] = some l) : ∃ x y z w v, l = [x, y, z, w, v] ∧ hexV a = some x ∧ hexV b = some y ∧ hexV c = some z ∧ hexV e = some w ∧ hexV g = some v := by
  simp only [hexsV] at h
  cases ha : hexV a with
  | none => rw [ha] at h; simp at h
  | some x =>
    cases hb : hexV b with
    | none => rw [ha, hb] at h; simp at h
    | some y =>
      cases hc : hexV c with
      | none => rw [ha, hb, hc] at h; simp at h
      | some z =>
        cases he : hexV e with
        | none => rw [ha, hb, hc, he] at h; simp at h
        | some w =>
          cases hg : hexV g with
          | none => rw [ha, hb, hc, he, hg] at h; simp at h
          | some v =>
            rw [ha, hb, hc, he, hg] at h
            simp only [Option.some.injEq] at h
            exact ⟨x, y, z, w, v, h.symm, rfl, rfl, rfl, rfl, rfl⟩

theorem skLineV_fit {d : Bool} {f : List (List UInt8)} {r : RowD} {B : Nat} (hB : B < 2147483648) (h : skLineV d f = some r) (hf : ∀ x ∈ f, x.length ≤ B) : r.fits3 := by
  have hlx : ∀ i, (skFld f i).length ≤ B := fun i => by
    unfold skFld
    rw [List.getD_eq_getElem?_getD]
    cases hg : f[i]? with
    | none => simp
    | some x => exact hf x (List.mem_of_getElem? hg)
  unfold skLineV at h
  by_cases hc : f.length = (if d then 13 else 17) ∧ endsC (skFld f 0) = true
  rotate_left
  · rw [if_neg hc] at h; cases h
  rw [if_pos hc] at h
  generalize (if d then skFld f 12 else [48]) = last at h
  unfold skV at h
  split at h <;> try (simp at h; done)
  rename_i a0 a1 b0 b1 q0 q1 hp1 hp2 hp4
  split at h <;> try (simp at h; done)
  rename_i d0 d1 d2 d3 hd
  split at h <;> try (simp at h; done)
  rename_i h0 h1 h2 h3 h4 hx
  simp only [Option.some.injEq] at h
  subst h
  obtain ⟨_, g⟩ := decsV_fit hd
  obtain ⟨y1, y2, y3, y4, y5, hl, k1, k2, k3, k4, k5⟩ := hexsV_five' hx
  simp only [List.cons.injEq, and_true] at hl
  obtain ⟨rfl, rfl, rfl, rfl, rfl⟩ := hl
  have e1 := (hexV_spec k1).2.2.1; have e2 := (hexV_spec k2).2.2.1; have e3 := (hexV_spec k3).2.2.1; have e4 := (hexV_spec k4).2.2.1; have e5 := (hexV_spec k5).2.2.1
  have g0 := g d0 (by simp); have g1 := g d1 (by simp); have g2 := g d2 (by simp); have g3 := g d3 (by simp)
  have p1 := partG_mem 58 (skFld f 1) []
  have p2 := partG_mem 58 (skFld f 2) []
  rw [hp1] at p1
  rw [hp2] at p2
  have p1 := p1 a0 (by simp)
  have p2 := p2 b0 (by simp)
  have l1 := hlx 1
  have l2 := hlx 2
  simp only [List.length_nil, Nat.zero_add] at p1 p2
  refine ⟨by simp, by simp, fun n hn => ?_, by simp, fun s hs => ?_⟩
  · simp only [List.mem_cons, List.not_mem_nil, or_false] at hn
    rcases hn with rfl | rfl | rfl | rfl | rfl | rfl | rfl | rfl | rfl <;> assumption
  · simp only [List.mem_cons, List.not_mem_nil, or_false] at hs
    rcases hs with rfl | rfl <;> omega

theorem skTabV_fit {d : Bool} {B : Nat} (hB : B < 2147483648) : ∀ {ls : List (List UInt8)} {rs : List RowD}, skTabV d ls = some rs → (∀ s ∈ ls, s.length ≤ B) → rs.length = ls.length ∧ ∀ r ∈ rs, r.fits3
  | [], rs, h, _ => by simp only [skTabV, Option.some.injEq] at h; subst h; simp
  | s :: ls, rs, h, hl => by
    simp only [skTabV] at h
    cases hv : skLineV d (fieldsL s) with
    | none => rw [hv] at h; simp at h
    | some r =>
      rw [hv] at h
      cases ht : skTabV d ls with
      | none => rw [ht] at h; simp at h
      | some q =>
        rw [ht] at h
        simp only [Option.some.injEq] at h
        subst h
        obtain ⟨i1, i2⟩ := skTabV_fit hB ht (fun s hs => hl s (by simp [hs]))
        have hs := hl s (by simp)
        have hr := skLineV_fit hB hv (fun x hx => by
          obtain ⟨_, _, k2⟩ := fieldsV_shape s
          have := k2 x hx; omega)
        refine ⟨by simp [i1], fun q' hq => ?_⟩
        rcases List.mem_cons.1 hq with rfl | hq
        · exact hr
        · exact i2 q' hq

def skRes (d : Bool) (s : List UInt8) : List SV :=
  if s.all plainC = true ∧ s.take skHead.length = skHead then match skTabV d (linesL (s.drop skHead.length)) with
    | some rs => [.sl (rowsSV rs), .bool (rs.all (skOk d))]
    | none => [.sl [], .bool false]
  else [.sl [], .bool false]

theorem skRows_fit {d : Bool} {t : List UInt8} {rs : List RowD} (h : skTabV d (linesL t) = some rs) (ht : t.length ≤ 40000) : rs.length ≤ 40001 ∧ rowsFit3 rs := by
  obtain ⟨_, k1, k2⟩ := linesV_shape t
  obtain ⟨g1, g2⟩ := skTabV_fit (B := 40000) (by omega) h (fun x hx => by have := k2 x hx; omega)
  exact ⟨by omega, by omega, g2⟩

def S1075 (F : List SV → Option AV) : Prop := ∀ (d : Bool) (s : List UInt8), s.length ≤ 40000 → F [.str s, .bool d] = some (.sv (.tup (skRes d s)))

set_option maxHeartbeats 4000000 in
theorem ev1075 (E : Env) (h : E.code 75 = some c1075) (h78 : E.pure 98 = some F78) (h30 : E.pure 52 = some F30) (h28 : E.pure 64 = some F28) (h52 : E.pure 65 = some F52) (h76 : E.pure 124 = some F76) (h97 : E.pure 97 = some F77) (h23 : Has E 126 S123) (h25 : Has E 125 S1125) (h68 : Has E 68 S1068) : S1075 (autoF E 75) := by
  obtain ⟨FF, hpF, hFF⟩ := h68
  intro d s hs
  have e78 := F78_eq s (by omega)
  have e30 : F30 [.str s, .str skHead] = some (.sv (.bool (decide (skHead.length ≤ s.length) && (s.take skHead.length == skHead)))) := rfl
  have e28 := F28_eq (s.drop 97) (by simp; omega)
  have hh : skHead.length = 97 := rfl
  refine autoA_sv (n := s.length + 12) ?_ rfl
  unfold evPA skRes
  simp only [h]
  rw [hh] at e30 ⊢
  by_cases hp : s.all plainC = true
  rotate_left
  · have hp' : s.all plainC = false := by simpa using hp
    rw [if_neg (fun hc => hp hc.1)]
    rw [hp'] at e78
    simp [c1075, h78, e78]
  rw [hp] at e78
  by_cases ht : s.take 97 = skHead
  rotate_left
  · rw [if_neg (fun hc => ht hc.2)]
    have e : (decide (97 ≤ s.length) && (s.take 97 == skHead)) = false := by simp [ht]
    rw [e] at e30
    simp only [skHead, skHeadL, List.cons_append, List.nil_append] at e30
    simp [c1075, h78, e78, h30, e30]
  rw [if_pos ⟨hp, ht⟩]
  have hl : 97 ≤ s.length := by
    have := congrArg List.length ht
    rw [List.length_take, hh] at this
    omega
  have e : (decide (97 ≤ s.length) && (s.take 97 == skHead)) = true := by simp [ht, hl]
  rw [e] at e30
  simp only [skHead, skHeadL, List.cons_append, List.nil_append] at e30
  have hdl : (s.drop 97).length ≤ 40000 := by simp; omega
  have hdl2 : (s.drop 97).length ≤ s.length := by simp
  have hsub : (97 : Int) ≤ (s.length : Int) := by omega
  generalize ht' : s.drop 97 = t at *
  obtain ⟨_, k1, k2⟩ := linesV_shape t
  have hlp := loop1075_1 E (evF E (s.length + 12)) (s.length + 12) (by omega) h52 h76 h97 h23 h25 d (strs (linesL t)) (by rw [strs_length]; omega) (linesL t) [] [] 0 (s.length + 12) rfl rfl rfl (fun x hx => by have := k2 x hx; omega) (by omega)
  have hfit := @skRows_fit d t
  generalize linesL t = ls at *
  simp only [st1075, accA, List.nil_append] at hlp
  have hcast : ((0 : Nat) : Int) = 0 := rfl
  rw [hcast] at hlp
  cases hv : skTabV d ls with
  | none =>
    rw [hv] at hlp
    simp only [bad1075] at hlp
    simp [c1075, h78, e78, h30, e30, hsub, ht', h28, e28, hlp]
  | some rs =>
    rw [hv] at hlp
    obtain ⟨f1, f2⟩ := hfit hv hdl
    have hF := hFF d rs f2
    simp only at hlp ⊢
    generalize rowsSV rs = R at *
    cases R with
    | nil =>
      simp only [accA] at hlp
      simp [c1075, h78, e78, h30, e30, hsub, ht', h28, e28, hlp, hpF, hF]
    | cons y ys =>
      simp only [accA] at hlp
      simp [c1075, h78, e78, h30, e30, hsub, ht', h28, e28, hlp, hpF, hF]

end Go.Ev

set_option linter.unusedSimpArgs false
set_option linter.unusedVariables false
namespace Go.Ev
open Go.Proofs

def SPrint (d : Bool) (F : List SV → Option AV) : Prop := ∀ l : List RowD, rowsFit3 l → F [.sl (rowsSV l)] = some (.sv (.tup (if l.all (skOk d) = true then [.str (skText d l), .int .i64 1] else [.str [], .int .i64 2])))
def STree (d : Bool) (F : List SV → Option AV) : Prop := ∀ l : List RowD, rowsFit3 l → l.all (skOk d) = true → F [.sl (rowsSV l)] = some (.sv (.tup [skTree d l, .int .i64 1]))
def SRead (d : Bool) (F : List SV → Option AV) : Prop := ∀ s : List UInt8, s.length ≤ 40000 → match skRead d s with
  | some rs => F [.str s] = some (.sv (.tup [.sl (rowsSV rs), .bool true, .int .i64 1])) ∧ rowsFit3 rs ∧ ∀ r ∈ rs, skOk d r = true
  | none => ∃ l, F [.str s] = some (.sv (.tup [.sl l, .bool false, .int .i64 2]))

theorem ev1027 (E : Env) (h : E.code 27 = some c1027) (h68 : Has E 68 S1068) (h69 : Has E 69 S1069) : SPrint false (autoF E 27) := by
  obtain ⟨F, hp, hF⟩ := h68
  obtain ⟨G, hq, hG⟩ := h69
  intro l hl
  have hF1 := hF false l hl
  refine autoA_sv (n := 1) ?_ rfl
  unfold evPA
  simp only [h]
  cases ha : l.all (skOk false) with
  | false =>
    rw [ha] at hF1
    rw [if_neg (by simp)]
    simp [c1027, hp, hF1]
  | true =>
    rw [ha] at hF1
    have hG1 := hG false l hl (List.all_eq_true.1 ha)
    rw [if_pos rfl]
    generalize skText false l = o at *
    simp [c1027, hp, hF1, hq, hG1]

theorem ev1028 (E : Env) (h : E.code 28 = some c1028) (h68 : Has E 68 S1068) (h70 : Has E 70 S1070) : STree false (autoF E 28) := by
  obtain ⟨F, hp, hF⟩ := h68
  obtain ⟨G, hq, hG⟩ := h70
  intro l hl ha
  have hF1 := hF false l hl
  rw [ha] at hF1
  have hG1 := hG false l hl (List.all_eq_true.1 ha)
  refine autoA_sv (n := 1) ?_ rfl
  unfold evPA
  simp only [h]
  unfold skTree nodeV at *
  generalize l.map (skNode false) = kids at *
  simp [c1028, hp, hF1, hq, hG1]

theorem ev1030 (E : Env) (h : E.code 30 = some c1030) (h75 : Has E 75 S1075) (h50 : E.pure 50 = some F1050) : SRead false (autoF E 30) := by
  obtain ⟨F, hp, hF⟩ := h75
  intro s hs
  have hF1 := hF false s hs
  have bad : ∀ (l : List SV), F [.str s, .bool false] = some (.sv (.tup [.sl l, .bool false])) → autoF E 30 [.str s] = some (.sv (.tup [.sl l, .bool false, .int .i64 2])) := by
    intro l hl
    refine autoA_sv (n := 1) ?_ rfl
    unfold evPA
    simp only [h]
    simp [c1030, hp, hl, h50, F1050]
  unfold skRes at hF1
  unfold skRead
  by_cases hc : s.all plainC = true ∧ s.take skHead.length = skHead
  rotate_left
  · rw [if_neg hc] at hF1 ⊢
    exact ⟨_, bad _ hF1⟩
  rw [if_pos hc] at hF1 ⊢
  cases hv : skTabV false (linesL (s.drop skHead.length)) with
  | none =>
    rw [hv] at hF1
    exact ⟨_, bad _ hF1⟩
  | some rs =>
    rw [hv] at hF1
    simp only at hF1 ⊢
    obtain ⟨_, g2⟩ := skRows_fit hv (by simp; omega)
    cases ha : rs.all (skOk false) with
    | false =>
      rw [ha] at hF1
      rw [if_neg (by simp)]
      exact ⟨_, bad _ hF1⟩
    | true =>
      rw [ha] at hF1
      rw [if_pos rfl]
      refine ⟨?_, g2, List.all_eq_true.1 ha⟩
      refine autoA_sv (n := 1) ?_ rfl
      unfold evPA
      simp only [h]
      generalize rowsSV rs = R at *
      simp [c1030, hp, hF1, h50, F1050]

theorem ev1031 (E : Env) (h : E.code 31 = some c1031) (h68 : Has E 68 S1068) (h69 : Has E 69 S1069) : SPrint true (autoF E 31) := by
  obtain ⟨F, hp, hF⟩ := h68
  obtain ⟨G, hq, hG⟩ := h69
  intro l hl
  have hF1 := hF true l hl
  refine autoA_sv (n := 1) ?_ rfl
  unfold evPA
  simp only [h]
  cases ha : l.all (skOk true) with
  | false =>
    rw [ha] at hF1
    rw [if_neg (by simp)]
    simp [c1031, hp, hF1]
  | true =>
    rw [ha] at hF1
    have hG1 := hG true l hl (List.all_eq_true.1 ha)
    rw [if_pos rfl]
    generalize skText true l = o at *
    simp [c1031, hp, hF1, hq, hG1]

theorem ev1032 (E : Env) (h : E.code 32 = some c1032) (h68 : Has E 68 S1068) (h70 : Has E 70 S1070) : STree true (autoF E 32) := by
  obtain ⟨F, hp, hF⟩ := h68
  obtain ⟨G, hq, hG⟩ := h70
  intro l hl ha
  have hF1 := hF true l hl
  rw [ha] at hF1
  have hG1 := hG true l hl (List.all_eq_true.1 ha)
  refine autoA_sv (n := 1) ?_ rfl
  unfold evPA
  simp only [h]
  unfold skTree nodeV at *
  generalize l.map (skNode true) = kids at *
  simp [c1032, hp, hF1, hq, hG1]

theorem ev1034 (E : Env) (h : E.code 34 = some c1034) (h75 : Has E 75 S1075) (h50 : E.pure 50 = some F1050) : SRead true (autoF E 34) := by
  obtain ⟨F, hp, hF⟩ := h75
  intro s hs
  have hF1 := hF true s hs
  have bad : ∀ (l : List SV), F [.str s, .bool true] = some (.sv (.tup [.sl l, .bool false])) → autoF E 34 [.str s] = some (.sv (.tup [.sl l, .bool false, .int .i64 2])) := by
    intro l hl
    refine autoA_sv (n := 1) ?_ rfl
    unfold evPA
    simp only [h]
    simp [c1034, hp, hl, h50, F1050]
  unfold skRes at hF1
  unfold skRead
  by_cases hc : s.all plainC = true ∧ s.take skHead.length = skHead
  rotate_left
  · rw [if_neg hc] at hF1 ⊢
    exact ⟨_, bad _ hF1⟩
  rw [if_pos hc] at hF1 ⊢
  cases hv : skTabV true (linesL (s.drop skHead.length)) with
  | none =>
    rw [hv] at hF1
    exact ⟨_, bad _ hF1⟩
  | some rs =>
    rw [hv] at hF1
    simp only at hF1 ⊢
    obtain ⟨_, g2⟩ := skRows_fit hv (by simp; omega)
    cases ha : rs.all (skOk true) with
    | false =>
      rw [ha] at hF1
      rw [if_neg (by simp)]
      exact ⟨_, bad _ hF1⟩
    | true =>
      rw [ha] at hF1
      rw [if_pos rfl]
      refine ⟨?_, g2, List.all_eq_true.1 ha⟩
      refine autoA_sv (n := 1) ?_ rfl
      unfold evPA
      simp only [h]
      generalize rowsSV rs = R at *
      simp [c1034, hp, hF1, h50, F1050]

end Go.Ev
