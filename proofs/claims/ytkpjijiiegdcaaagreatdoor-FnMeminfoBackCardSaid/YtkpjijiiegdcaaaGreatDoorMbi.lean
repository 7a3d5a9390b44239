/- Memory: the door's tree (lines printed by a program of this work). -/
/- Memory: the door, whole; the laws (lines printed by a program of this work). -/
/- Entries of the memory. -/
import Derived.Test.YtkpjijiiegdcaaaGreatDoorMbh
import Derived.Test.YtkpjijiiegdcaaaGreatDoorMaq
import Derived.Test.YtkpjijiiegdcaaaGreatDoorMba
set_option linter.unusedSimpArgs false
set_option linter.unusedVariables false
namespace Go.Ev
open Go.Proofs

def memFns : List Nat := [68, 69, 70, 71, 72, 73, 74, 75, 76, 77, 78, 79, 80, 81, 82, 83, 84, 85, 86, 87, 88, 89, 90, 91, 92, 93, 94, 95, 96, 97, 98, 99, 100, 101, 102, 103, 104, 105, 106, 107, 108, 109, 110, 111, 112, 113, 114, 115, 116, 117, 118, 119, 120, 121, 122, 123, 124, 125, 126, 127, 128, 129, 130, 131, 132, 133, 134, 135, 136, 137, 138, 139, 140, 141, 142, 143, 144, 145, 146, 147, 148, 149, 150, 151, 152, 153, 154, 155, 156, 157, 158, 159, 160, 161, 162, 163, 164, 165, 166, 167, 168, 169, 170, 171, 172, 173]
theorem memHas_of {E : Env} (hc : memFns.map E.code = List.replicate 106 (some c4068)) (hn : (memFns.all fun f => (E.pure f).isNone) = true) {g : Nat} (hg : g ∈ memFns) : E.code g = some c4068 ∧ E.pure g = none := by
  constructor
  · have : E.code g ∈ memFns.map E.code := List.mem_map.2 ⟨g, hg, rfl⟩
    rw [hc] at this
    exact List.eq_of_mem_replicate this
  · have := List.all_eq_true.1 hn g hg
    simpa using this

def S1145 (F : List SV → Option AV) : Prop := ∀ (g : Nat), g ∈ memFns → ∀ nm : List UInt8, F [.str nm, .nilP, .fn g [] []] = some (.sv (nodeV nm 0 false 0 0 0 [] [])) ∧ ∀ v : Int, F [.str nm, .ref [.int .u64 v], .fn g [] []] = some (.sv (nodeV nm 3 false 0 v 0 [] []))

set_option maxHeartbeats 4000000 in
theorem ev1145 (E : Env) (h : E.code 67 = some c1145) (hc : memFns.map E.code = List.replicate 106 (some c4068)) (hpn : (memFns.all fun f => (E.pure f).isNone) = true) : S1145 (autoF E 67) := by
  intro g hg nm
  obtain ⟨h1, h2⟩ := memHas_of hc hpn hg
  refine ⟨?_, fun v => ?_⟩
  · refine autoF_sv (n := 1) ?_ rfl
    unfold evP
    simp only [h]
    simp [c1145, List.replicate, nodeV]
  · refine autoF_sv (n := 2) ?_ rfl
    unfold evP
    simp only [h]
    simp [c1145, List.replicate, nodeV, evF, h1, h2, c4068]

/-! ### One counter -/

theorem cellsV (l : List SV) (off : Nat) (B : List Box) (tm : List (Nat × AV)) : cellsAtA { nt := 857, tm := tm, lz := none, bx := .live (l.map Cell.sv) :: B, df := [] } (.ptr 0 off) = some (l.drop off) := by
  show some ((((l.map Cell.sv).drop off).map fun c => match c with | .sv v => v | .own _ xs => .sl xs | .lnk _ _ => .ref [] | .lrw _ _ _ => .unk)) = _
  rw [← List.map_drop]
  generalize l.drop off = q
  congr 1
  induction q with
  | nil => rfl
  | cons v q ih => rw [List.map_cons, List.map_cons, ih]

def blk (a off : Nat) (nm : List UInt8) (g : Nat) (ks : List Nat) : ACode := .seq (.region 6 [⟨some a, .fAddr 7 (.t 5), none⟩, ⟨some (a + 1), .loadL (.t a), none⟩, ⟨some (a + 2), .fAddr off (.t 3), none⟩, ⟨some (a + 3), .load none (.t (a + 2)), none⟩, ⟨some (a + 4), .call (.c (.fn 67 [] [])) [.c (.str nm), .t (a + 3), .c (.fn g [] [])], none⟩, ⟨some (a + 5), .mkSl 47 8 [.t (a + 4)], none⟩, ⟨some (a + 6), .app 47 8 96 (some (a + 1)) (.t (a + 1)) (.t (a + 5)), none⟩, ⟨some (a + 7), .fAddr 7 (.t 5), none⟩, ⟨none, .store none (.t (a + 7)) (.t (a + 6)), none⟩]) (.kill (ks ++ [a, a + 1, a + 2, a + 3, a + 4, a + 5, a + 6, a + 7]))

def accC2 (acc : List SV) : Cell := match acc with
  | [] => .sv .nilS
  | x :: xs => .own 47 (x :: xs)
def ndBox (acc : List SV) : Box := .live [.sv (.str []), .sv (.int .i64 8), .sv (.bool false), .sv (.int .i64 0), .sv (.int .u64 0), .sv (.flt .f64 0), .sv (.str []), accC2 acc]
def st4040 (V : List SV) (acc : List SV) : SA := { nt := 857, tm := [(5, .ptr 2 0), (4, .ptr 1 0), (3, .ptr 0 0)], lz := none, bx := [.live (V.map .sv), zND, ndBox acc], df := [] }
def en4040 (V : List SV) (acc : List SV) : SA := { nt := 857, tm := [(5, .ptr 2 0), (4, .ptr 1 0)], lz := none, bx := [.live (V.map .sv), zND, ndBox acc], df := [] }

def nodeOf (nm : List UInt8) (v : SV) : SV := match v with
  | .ref (.int .u64 x :: _) => nodeV nm 3 false 0 x 0 [] []
  | _ => nodeV nm 0 false 0 0 0 [] []

set_option maxRecDepth 100000 in
set_option maxHeartbeats 8000000 in
theorem blk_run {F : List SV → Option AV} (E : Env) (cf : CallF) (m : Nat) (hp : E.pure 67 = some F) (a off : Nat) (nm : List UInt8) (g : Nat) (ha : 5 < a) (ha2 : a < 849) (V acc : List SV) (hal : acc.length < 1000000) (hoff : off < V.length) (hpv : V.map (Cell.plain ∘ Cell.sv) = V) (v : SV) (hv : V[off]? = some v) (kd u : Int) (hF : F [.str nm, v, .fn g [] []] = some (.sv (nodeV nm kd false 0 u 0 [] []))) (hcp : v = .nilP ∨ ∃ q : Int, v = .ref [.int .u64 q]) :
    evCA E cf m (blk a off nm g []) (st4040 V acc) = some (.normal, st4040 V (acc ++ [nodeV nm kd false 0 u 0 [] []])) ∧ evCA E cf m (blk a off nm g [3]) (st4040 V acc) = some (.normal, en4040 V (acc ++ [nodeV nm kd false 0 u 0 [] []])) := by
  have n0 : a < 857 := by omega
  have n1 : a + 1 < 857 := by omega
  have n2 : a + 2 < 857 := by omega
  have n3 : a + 3 < 857 := by omega
  have n4 : a + 4 < 857 := by omega
  have n5 : a + 5 < 857 := by omega
  have n6 : a + 6 < 857 := by omega
  have n7 : a + 7 < 857 := by omega
  have m0 : ¬ a = 0 := by omega
  have m1 : ¬ a = 1 := by omega
  have m2 : ¬ a = 2 := by omega
  have m3 : ¬ a = 3 := by omega
  have m4 : ¬ a = 4 := by omega
  have m5 : ¬ a = 5 := by omega
  have p0_3 : 3 < a := by omega
  have p0_4 : 4 < a := by omega
  have p0_5 : 5 < a := by omega
  have p1_3 : 3 < a + 1 := by omega
  have p1_4 : 4 < a + 1 := by omega
  have p1_5 : 5 < a + 1 := by omega
  have p2_3 : 3 < a + 2 := by omega
  have p2_4 : 4 < a + 2 := by omega
  have p2_5 : 5 < a + 2 := by omega
  have p3_3 : 3 < a + 3 := by omega
  have p3_4 : 4 < a + 3 := by omega
  have p3_5 : 5 < a + 3 := by omega
  have p4_3 : 3 < a + 4 := by omega
  have p4_4 : 4 < a + 4 := by omega
  have p4_5 : 5 < a + 4 := by omega
  have p5_3 : 3 < a + 5 := by omega
  have p5_4 : 4 < a + 5 := by omega
  have p5_5 : 5 < a + 5 := by omega
  have p6_3 : 3 < a + 6 := by omega
  have p6_4 : 4 < a + 6 := by omega
  have p6_5 : 5 < a + 6 := by omega
  have p7_3 : 3 < a + 7 := by omega
  have p7_4 : 4 < a + 7 := by omega
  have p7_5 : 5 < a + 7 := by omega
  have q1_0 : ¬ a + 1 < a := by omega
  have q2_0 : ¬ a + 2 < a := by omega
  have q3_0 : ¬ a + 3 < a := by omega
  have q4_0 : ¬ a + 4 < a := by omega
  have q5_0 : ¬ a + 5 < a := by omega
  have q6_0 : ¬ a + 6 < a := by omega
  have q7_0 : ¬ a + 7 < a := by omega
  have q2_1 : ¬ a + 2 < a + 1 := by omega
  have q3_1 : ¬ a + 3 < a + 1 := by omega
  have q4_1 : ¬ a + 4 < a + 1 := by omega
  have q5_1 : ¬ a + 5 < a + 1 := by omega
  have q6_1 : ¬ a + 6 < a + 1 := by omega
  have q7_1 : ¬ a + 7 < a + 1 := by omega
  have q3_2 : ¬ a + 3 < a + 2 := by omega
  have q4_2 : ¬ a + 4 < a + 2 := by omega
  have q5_2 : ¬ a + 5 < a + 2 := by omega
  have q6_2 : ¬ a + 6 < a + 2 := by omega
  have q7_2 : ¬ a + 7 < a + 2 := by omega
  have q4_3 : ¬ a + 4 < a + 3 := by omega
  have q5_3 : ¬ a + 5 < a + 3 := by omega
  have q6_3 : ¬ a + 6 < a + 3 := by omega
  have q7_3 : ¬ a + 7 < a + 3 := by omega
  have q5_4 : ¬ a + 5 < a + 4 := by omega
  have q6_4 : ¬ a + 6 < a + 4 := by omega
  have q7_4 : ¬ a + 7 < a + 4 := by omega
  have q6_5 : ¬ a + 6 < a + 5 := by omega
  have q7_5 : ¬ a + 7 < a + 5 := by omega
  have q7_6 : ¬ a + 7 < a + 6 := by omega
  have z849 : ¬ 849 ≤ a := by omega
  have z850 : ¬ 850 ≤ a := by omega
  have z851 : ¬ 851 ≤ a := by omega
  have z852 : ¬ 852 ≤ a := by omega
  have z853 : ¬ 853 ≤ a := by omega
  have z854 : ¬ 854 ≤ a := by omega
  have z855 : ¬ 855 ≤ a := by omega
  have z856 : ¬ 856 ≤ a := by omega
  have z857 : ¬ 857 ≤ a := by omega
  have w3_0 : ¬ 3 = a := by omega
  have w3_1 : ¬ 3 = a + 1 := by omega
  have w3_2 : ¬ 3 = a + 2 := by omega
  have w3_3 : ¬ 3 = a + 3 := by omega
  have w3_4 : ¬ 3 = a + 4 := by omega
  have w3_5 : ¬ 3 = a + 5 := by omega
  have w3_6 : ¬ 3 = a + 6 := by omega
  have w3_7 : ¬ 3 = a + 7 := by omega
  have w4_0 : ¬ 4 = a := by omega
  have w4_1 : ¬ 4 = a + 1 := by omega
  have w4_2 : ¬ 4 = a + 2 := by omega
  have w4_3 : ¬ 4 = a + 3 := by omega
  have w4_4 : ¬ 4 = a + 4 := by omega
  have w4_5 : ¬ 4 = a + 5 := by omega
  have w4_6 : ¬ 4 = a + 6 := by omega
  have w4_7 : ¬ 4 = a + 7 := by omega
  have w5_0 : ¬ 5 = a := by omega
  have w5_1 : ¬ 5 = a + 1 := by omega
  have w5_2 : ¬ 5 = a + 2 := by omega
  have w5_3 : ¬ 5 = a + 3 := by omega
  have w5_4 : ¬ 5 = a + 4 := by omega
  have w5_5 : ¬ 5 = a + 5 := by omega
  have w5_6 : ¬ 5 = a + 6 := by omega
  have w5_7 : ¬ 5 = a + 7 := by omega
  obtain ⟨T, hT⟩ : ∃ T, V.drop off = v :: T := ⟨V.drop (off + 1), by
    have := (List.getElem?_eq_some_iff.1 hv).2
    rw [← this]
    exact List.drop_eq_getElem_cons hoff⟩
  have hcell := cellsV V off [] []
  rw [hT] at hcell
  simp [cellsAtA] at hcell
  unfold nodeV at *
  rcases hcp with rfl | ⟨q, rfl⟩ <;> (
    cases acc with
    | nil => constructor <;> simp [blk, st4040, en4040, ndBox, zND, accC2, w3_0, w3_1, w3_2, w3_3, w3_4, w3_5, w3_6, w3_7, w4_0, w4_1, w4_2, w4_3, w4_4, w4_5, w4_6, w4_7, w5_0, w5_1, w5_2, w5_3, w5_4, w5_5, w5_6, w5_7, z849, z850, z851, z852, z853, z854, z855, z856, z857, n0, n1, n2, n3, n4, n5, n6, n7, m0, m1, m2, m3, m4, m5, p0_3, p0_4, p0_5, p1_3, p1_4, p1_5, p2_3, p2_4, p2_5, p3_3, p3_4, p3_5, p4_3, p4_4, p4_5, p5_3, p5_4, p5_5, p6_3, p6_4, p6_5, p7_3, p7_4, p7_5, q1_0, q2_0, q3_0, q4_0, q5_0, q6_0, q7_0, q2_1, q3_1, q4_1, q5_1, q6_1, q7_1, q3_2, q4_2, q5_2, q6_2, q7_2, q4_3, q5_3, q6_3, q7_3, q5_4, q6_4, q7_4, q6_5, q7_5, q7_6, hv, hpv, hcell, hT, hoff, hp, hF]
    | cons y ys =>
      simp only [List.length_cons] at hal
      have hys : ys.length < 1000000 := by omega
      constructor <;> simp [blk, st4040, en4040, ndBox, zND, accC2, w3_0, w3_1, w3_2, w3_3, w3_4, w3_5, w3_6, w3_7, w4_0, w4_1, w4_2, w4_3, w4_4, w4_5, w4_6, w4_7, w5_0, w5_1, w5_2, w5_3, w5_4, w5_5, w5_6, w5_7, z849, z850, z851, z852, z853, z854, z855, z856, z857, n0, n1, n2, n3, n4, n5, n6, n7, m0, m1, m2, m3, m4, m5, p0_3, p0_4, p0_5, p1_3, p1_4, p1_5, p2_3, p2_4, p2_5, p3_3, p3_4, p3_5, p4_3, p4_4, p4_5, p5_3, p5_4, p5_5, p6_3, p6_4, p6_5, p7_3, p7_4, p7_5, q1_0, q2_0, q3_0, q4_0, q5_0, q6_0, q7_0, q2_1, q3_1, q4_1, q5_1, q6_1, q7_1, q3_2, q4_2, q5_2, q6_2, q7_2, q4_3, q5_3, q6_3, q7_3, q5_4, q6_4, q7_4, q6_5, q7_5, q7_6, hv, hpv, hcell, hT, hoff, hp, hF, hys, bb1, bb2])

end Go.Ev

set_option linter.unusedSimpArgs false
set_option linter.unusedVariables false
namespace Go.Ev
open Go.Proofs

def blks : Nat → List (List UInt8 × Nat) → ACode → ACode
  | _, [], z => z
  | i, [(nm, g)], z => .seq (blk (8 * i + 8) i nm g [3]) z
  | i, (nm, g) :: y :: l, z => .seq (blk (8 * i + 8) i nm g []) (blks (i + 1) (y :: l) z)

def memBlks : List (List UInt8 × Nat) := [([77, 101, 109, 84, 111, 116, 97, 108], 68), ([77, 101, 109, 70, 114, 101, 101], 69), ([77, 101, 109, 65, 118, 97, 105, 108, 97, 98, 108, 101], 70), ([66, 117, 102, 102, 101, 114, 115], 71), ([67, 97, 99, 104, 101, 100], 72), ([83, 119, 97, 112, 67, 97, 99, 104, 101, 100], 73), ([65, 99, 116, 105, 118, 101], 74), ([73, 110, 97, 99, 116, 105, 118, 101], 75), ([65, 99, 116, 105, 118, 101, 65, 110, 111, 110], 76), ([73, 110, 97, 99, 116, 105, 118, 101, 65, 110, 111, 110], 77), ([65, 99, 116, 105, 118, 101, 70, 105, 108, 101], 78), ([73, 110, 97, 99, 116, 105, 118, 101, 70, 105, 108, 101], 79), ([85, 110, 101, 118, 105, 99, 116, 97, 98, 108, 101], 80), ([77, 108, 111, 99, 107, 101, 100], 81), ([83, 119, 97, 112, 84, 111, 116, 97, 108], 82), ([83, 119, 97, 112, 70, 114, 101, 101], 83), ([90, 115, 119, 97, 112], 84), ([90, 115, 119, 97, 112, 112, 101, 100], 85), ([68, 105, 114, 116, 121], 86), ([87, 114, 105, 116, 101, 98, 97, 99, 107], 87), ([65, 110, 111, 110, 80, 97, 103, 101, 115], 88), ([77, 97, 112, 112, 101, 100], 89), ([83, 104, 109, 101, 109], 90), ([83, 108, 97, 98], 91), ([83, 82, 101, 99, 108, 97, 105, 109, 97, 98, 108, 101], 92), ([83, 85, 110, 114, 101, 99, 108, 97, 105, 109], 93), ([75, 101, 114, 110, 101, 108, 83, 116, 97, 99, 107], 94), ([80, 97, 103, 101, 84, 97, 98, 108, 101, 115], 95), ([83, 101, 99, 80, 97, 103, 101, 84, 97, 98, 108, 101, 115], 96), ([78, 70, 83, 85, 110, 115, 116, 97, 98, 108, 101], 97), ([66, 111, 117, 110, 99, 101], 98), ([87, 114, 105, 116, 101, 98, 97, 99, 107, 84, 109, 112], 99), ([67, 111, 109, 109, 105, 116, 76, 105, 109, 105, 116], 100), ([67, 111, 109, 109, 105, 116, 116, 101, 100, 65, 83], 101), ([86, 109, 97, 108, 108, 111, 99, 84, 111, 116, 97, 108], 102), ([86, 109, 97, 108, 108, 111, 99, 85, 115, 101, 100], 103), ([86, 109, 97, 108, 108, 111, 99, 67, 104, 117, 110, 107], 104), ([80, 101, 114, 99, 112, 117], 105), ([72, 97, 114, 100, 119, 97, 114, 101, 67, 111, 114, 114, 117, 112, 116, 101, 100], 106), ([65, 110, 111, 110, 72, 117, 103, 101, 80, 97, 103, 101, 115], 107), ([70, 105, 108, 101, 72, 117, 103, 101, 80, 97, 103, 101, 115], 108), ([83, 104, 109, 101, 109, 72, 117, 103, 101, 80, 97, 103, 101, 115], 109), ([83, 104, 109, 101, 109, 80, 109, 100, 77, 97, 112, 112, 101, 100], 110), ([67, 109, 97, 84, 111, 116, 97, 108], 111), ([67, 109, 97, 70, 114, 101, 101], 112), ([85, 110, 97, 99, 99, 101, 112, 116, 101, 100], 113), ([72, 117, 103, 101, 80, 97, 103, 101, 115, 84, 111, 116, 97, 108], 114), ([72, 117, 103, 101, 80, 97, 103, 101, 115, 70, 114, 101, 101], 115), ([72, 117, 103, 101, 80, 97, 103, 101, 115, 82, 115, 118, 100], 116), ([72, 117, 103, 101, 80, 97, 103, 101, 115, 83, 117, 114, 112], 117), ([72, 117, 103, 101, 112, 97, 103, 101, 115, 105, 122, 101], 118), ([72, 117, 103, 101, 116, 108, 98], 119), ([68, 105, 114, 101, 99, 116, 77, 97, 112, 52, 107], 120), ([68, 105, 114, 101, 99, 116, 77, 97, 112, 50, 77], 121), ([68, 105, 114, 101, 99, 116, 77, 97, 112, 49, 71], 122), ([77, 101, 109, 84, 111, 116, 97, 108, 66, 121, 116, 101, 115], 123), ([77, 101, 109, 70, 114, 101, 101, 66, 121, 116, 101, 115], 124), ([77, 101, 109, 65, 118, 97, 105, 108, 97, 98, 108, 101, 66, 121, 116, 101, 115], 125), ([66, 117, 102, 102, 101, 114, 115, 66, 121, 116, 101, 115], 126), ([67, 97, 99, 104, 101, 100, 66, 121, 116, 101, 115], 127), ([83, 119, 97, 112, 67, 97, 99, 104, 101, 100, 66, 121, 116, 101, 115], 128), ([65, 99, 116, 105, 118, 101, 66, 121, 116, 101, 115], 129), ([73, 110, 97, 99, 116, 105, 118, 101, 66, 121, 116, 101, 115], 130), ([65, 99, 116, 105, 118, 101, 65, 110, 111, 110, 66, 121, 116, 101, 115], 131), ([73, 110, 97, 99, 116, 105, 118, 101, 65, 110, 111, 110, 66, 121, 116, 101, 115], 132), ([65, 99, 116, 105, 118, 101, 70, 105, 108, 101, 66, 121, 116, 101, 115], 133), ([73, 110, 97, 99, 116, 105, 118, 101, 70, 105, 108, 101, 66, 121, 116, 101, 115], 134), ([85, 110, 101, 118, 105, 99, 116, 97, 98, 108, 101, 66, 121, 116, 101, 115], 135), ([77, 108, 111, 99, 107, 101, 100, 66, 121, 116, 101, 115], 136), ([83, 119, 97, 112, 84, 111, 116, 97, 108, 66, 121, 116, 101, 115], 137), ([83, 119, 97, 112, 70, 114, 101, 101, 66, 121, 116, 101, 115], 138), ([90, 115, 119, 97, 112, 66, 121, 116, 101, 115], 139), ([90, 115, 119, 97, 112, 112, 101, 100, 66, 121, 116, 101, 115], 140), ([68, 105, 114, 116, 121, 66, 121, 116, 101, 115], 141), ([87, 114, 105, 116, 101, 98, 97, 99, 107, 66, 121, 116, 101, 115], 142), ([65, 110, 111, 110, 80, 97, 103, 101, 115, 66, 121, 116, 101, 115], 143), ([77, 97, 112, 112, 101, 100, 66, 121, 116, 101, 115], 144), ([83, 104, 109, 101, 109, 66, 121, 116, 101, 115], 145), ([83, 108, 97, 98, 66, 121, 116, 101, 115], 146), ([83, 82, 101, 99, 108, 97, 105, 109, 97, 98, 108, 101, 66, 121, 116, 101, 115], 147), ([83, 85, 110, 114, 101, 99, 108, 97, 105, 109, 66, 121, 116, 101, 115], 148), ([75, 101, 114, 110, 101, 108, 83, 116, 97, 99, 107, 66, 121, 116, 101, 115], 149), ([80, 97, 103, 101, 84, 97, 98, 108, 101, 115, 66, 121, 116, 101, 115], 150), ([83, 101, 99, 80, 97, 103, 101, 84, 97, 98, 108, 101, 115, 66, 121, 116, 101, 115], 151), ([78, 70, 83, 85, 110, 115, 116, 97, 98, 108, 101, 66, 121, 116, 101, 115], 152), ([66, 111, 117, 110, 99, 101, 66, 121, 116, 101, 115], 153), ([87, 114, 105, 116, 101, 98, 97, 99, 107, 84, 109, 112, 66, 121, 116, 101, 115], 154), ([67, 111, 109, 109, 105, 116, 76, 105, 109, 105, 116, 66, 121, 116, 101, 115], 155), ([67, 111, 109, 109, 105, 116, 116, 101, 100, 65, 83, 66, 121, 116, 101, 115], 156), ([86, 109, 97, 108, 108, 111, 99, 84, 111, 116, 97, 108, 66, 121, 116, 101, 115], 157), ([86, 109, 97, 108, 108, 111, 99, 85, 115, 101, 100, 66, 121, 116, 101, 115], 158), ([86, 109, 97, 108, 108, 111, 99, 67, 104, 117, 110, 107, 66, 121, 116, 101, 115], 159), ([80, 101, 114, 99, 112, 117, 66, 121, 116, 101, 115], 160), ([72, 97, 114, 100, 119, 97, 114, 101, 67, 111, 114, 114, 117, 112, 116, 101, 100, 66, 121, 116, 101, 115], 161), ([65, 110, 111, 110, 72, 117, 103, 101, 80, 97, 103, 101, 115, 66, 121, 116, 101, 115], 162), ([70, 105, 108, 101, 72, 117, 103, 101, 80, 97, 103, 101, 115, 66, 121, 116, 101, 115], 163), ([83, 104, 109, 101, 109, 72, 117, 103, 101, 80, 97, 103, 101, 115, 66, 121, 116, 101, 115], 164), ([83, 104, 109, 101, 109, 80, 109, 100, 77, 97, 112, 112, 101, 100, 66, 121, 116, 101, 115], 165), ([67, 109, 97, 84, 111, 116, 97, 108, 66, 121, 116, 101, 115], 166), ([67, 109, 97, 70, 114, 101, 101, 66, 121, 116, 101, 115], 167), ([85, 110, 97, 99, 99, 101, 112, 116, 101, 100, 66, 121, 116, 101, 115], 168), ([72, 117, 103, 101, 112, 97, 103, 101, 115, 105, 122, 101, 66, 121, 116, 101, 115], 169), ([72, 117, 103, 101, 116, 108, 98, 66, 121, 116, 101, 115], 170), ([68, 105, 114, 101, 99, 116, 77, 97, 112, 52, 107, 66, 121, 116, 101, 115], 171), ([68, 105, 114, 101, 99, 116, 77, 97, 112, 50, 77, 66, 121, 116, 101, 115], 172), ([68, 105, 114, 101, 99, 116, 77, 97, 112, 49, 71, 66, 121, 116, 101, 115], 173)]
def tl4040 : ACode := .seq (.seq (.region 0 [⟨some 856, .load (some 8) (.t 5), none⟩, ⟨none, .store (some 8) (.t 4) (.t 856), none⟩]) (.kill [5, 856])) .ret
def d4040 : AFn := { ntmps := 857, results := [.cell 4 (some 8)], body := .seq (.seq (.region 0 [⟨some 3, .box 106 (.t 1), none⟩, ⟨some 4, .new [.str [], .int .i64 0, .bool false, .int .i64 0, .int .u64 0, .flt .f64 0, .str [], .nilS], none⟩]) (.kill [1])) (.seq (.seq (.region 0 [⟨some 6, .mov (.t 0), none⟩, ⟨some 7, .build [.str [], .int .i64 0, .bool false, .int .i64 0, .int .u64 0, .flt .f64 0, .str [], .nilS] [(0, 1, .t 6), (1, 1, .c (.int .i64 8))], none⟩, ⟨some 5, .new [.str [], .int .i64 0, .bool false, .int .i64 0, .int .u64 0, .flt .f64 0, .str [], .nilS], none⟩, ⟨none, .store (some 8) (.t 5) (.t 7), none⟩]) (.kill [0, 6, 7])) (blks 0 memBlks tl4040)), lk := false, mu := [] }

set_option maxRecDepth 100000 in
theorem cut4040 : c4040 = d4040 := by kernel_rfl

theorem memBlks_fst : memBlks.map Prod.fst = memN ++ memNB.map (· ++ bytesS) := by decide
theorem memBlks_snd : memBlks.map Prod.snd = memFns := rfl
theorem memBlks_len : memBlks.length = 106 := rfl

theorem seq_run {E : Env} {cf : CallF} {m : Nat} {a b : ACode} {s s' : SA} (h : evCA E cf m a s = some (.normal, s')) : evCA E cf m (.seq a b) s = evCA E cf m b s' := by
  simp [evCA, h]

def vOk (v : SV) : Prop := v = .nilP ∨ ∃ q : Int, v = .ref [.int .u64 q]

theorem blk_at {F : List SV → Option AV} (E : Env) (cf : CallF) (m : Nat) (hp : E.pure 67 = some F) (hF : S1145 F) (i : Nat) (nm : List UInt8) (g : Nat) (hg : g ∈ memFns) (hi : i < 106 - 1 ∨ i = 105) (V acc : List SV) (hal : acc.length < 1000000) (hV : V.length = 106) (hpv : V.map (Cell.plain ∘ Cell.sv) = V) (hvs : ∀ v ∈ V, vOk v) :
    ∃ v, V[i]? = some v ∧ evCA E cf m (blk (8 * i + 8) i nm g []) (st4040 V acc) = some (.normal, st4040 V (acc ++ [nodeOf nm v])) ∧ evCA E cf m (blk (8 * i + 8) i nm g [3]) (st4040 V acc) = some (.normal, en4040 V (acc ++ [nodeOf nm v])) := by
  have hoff : i < V.length := by omega
  obtain ⟨v, hv⟩ : ∃ v, V[i]? = some v := ⟨_, List.getElem?_eq_getElem hoff⟩
  obtain ⟨f1, f2⟩ := hF g hg nm
  refine ⟨v, hv, ?_⟩
  rcases hvs v (List.mem_of_getElem? hv) with rfl | ⟨q, rfl⟩
  · exact blk_run E cf m hp (8 * i + 8) i nm g (by omega) (by omega) V acc hal hoff hpv .nilP hv 0 0 f1 (.inl rfl)
  · exact blk_run E cf m hp (8 * i + 8) i nm g (by omega) (by omega) V acc hal hoff hpv _ hv 3 q (f2 q) (.inr ⟨q, rfl⟩)

theorem blks_run {F : List SV → Option AV} (E : Env) (cf : CallF) (m : Nat) (hp : E.pure 67 = some F) (hF : S1145 F) (z : ACode) (V : List SV) (hV : V.length = 106) (hpv : V.map (Cell.plain ∘ Cell.sv) = V) (hvs : ∀ v ∈ V, vOk v) :
    ∀ (l : List (List UInt8 × Nat)) (i : Nat) (acc : List SV), l ≠ [] → (∀ x ∈ l, x.2 ∈ memFns) → i + l.length = 106 → acc.length = i →
      evCA E cf m (blks i l z) (st4040 V acc) = evCA E cf m z (en4040 V (acc ++ List.zipWith nodeOf (l.map Prod.fst) (V.drop i)))
  | [], _, _, h, _, _, _ => absurd rfl h
  | [(nm, g)], i, acc, _, hg, hi, ha => by
    simp only [List.length_cons, List.length_nil] at hi
    obtain ⟨v, hv, _, h2⟩ := blk_at E cf m hp hF i nm g (hg (nm, g) (by simp)) (by omega) V acc (by omega) hV hpv hvs
    have hd : V.drop i = v :: V.drop (i + 1) := by
      rw [← (List.getElem?_eq_some_iff.1 hv).2]
      exact List.drop_eq_getElem_cons (by omega)
    rw [blks, seq_run h2, hd]
    simp
  | (nm, g) :: y :: l, i, acc, _, hg, hi, ha => by
    simp only [List.length_cons] at hi
    obtain ⟨v, hv, h1, _⟩ := blk_at E cf m hp hF i nm g (hg (nm, g) (by simp)) (by omega) V acc (by omega) hV hpv hvs
    have hd : V.drop i = v :: V.drop (i + 1) := by
      rw [← (List.getElem?_eq_some_iff.1 hv).2]
      exact List.drop_eq_getElem_cons (by omega)
    rw [blks, seq_run h1, blks_run E cf m hp hF z V hV hpv hvs (y :: l) (i + 1) (acc ++ [nodeOf nm v]) (by simp) (fun x hx => hg x (by simp at hx ⊢; exact .inr hx)) (by simp; omega) (by simp [ha]), hd]
    simp

set_option maxHeartbeats 4000000 in
theorem tl_run (E : Env) (cf : CallF) (m : Nat) (V K : List SV) (hK : 0 < K.length) : evCA E cf m tl4040 (en4040 V K) = some (.ret, { nt := 857, tm := [(4, .ptr 1 0)], lz := none, bx := [.live (V.map .sv), .live [.sv (.str []), .sv (.int .i64 8), .sv (.bool false), .sv (.int .i64 0), .sv (.int .u64 0), .sv (.flt .f64 0), .sv (.str []), .sv (.sl K)], ndBox K], df := [] }) := by
  cases K with
  | nil => simp at hK
  | cons k ks => simp [tl4040, en4040, ndBox, zND, accC2]

theorem memV_ok (rs : List RowD) : ∀ v ∈ memV rs, vOk v := by
  intro v hv
  unfold memV at hv
  rcases List.mem_append.1 hv with hv | hv
  · obtain ⟨x, _, rfl⟩ := List.mem_map.1 hv
    unfold vA
    split
    · exact .inr ⟨_, rfl⟩
    · exact .inl rfl
  · obtain ⟨x, _, rfl⟩ := List.mem_map.1 hv
    unfold vB
    split
    · exact .inr ⟨_, rfl⟩
    · exact .inl rfl

theorem memV_can (rs : List RowD) : (memV rs).map SV.can0 = memV rs := by
  have : ∀ l : List SV, (∀ v ∈ l, vOk v) → l.map SV.can0 = l := by
    intro l
    induction l with
    | nil => intro _; rfl
    | cons v l ih =>
      intro h
      rw [List.map_cons, ih (fun x hx => h x (by simp [hx]))]
      rcases h v (by simp) with rfl | ⟨q, rfl⟩ <;> rfl
  exact this _ (memV_ok rs)

theorem memV_len (rs : List RowD) : (memV rs).length = 106 := by unfold memV; rw [List.length_append, List.length_map, List.length_map, memN_len, memNB_len]

theorem zip_self {α β γ : Type} (f : α → β → γ) (g : α → β) : ∀ l : List α, List.zipWith f l (l.map g) = l.map fun x => f x (g x)
  | [] => rfl
  | x :: l => by simp only [List.map_cons, List.zipWith_cons_cons]; rw [zip_self f g l]

theorem memKids (rs : List RowD) : List.zipWith nodeOf (memBlks.map Prod.fst) (memV rs) = memTab.map (memKid rs) ++ memTabB.map (memKidB rs) := by
  rw [memBlks_fst]
  unfold memV
  rw [List.zipWith_append (by rw [List.length_map])]
  congr 1
  · rw [zip_self]
    unfold memN
    rw [List.map_map]
    refine List.map_congr_left fun f _ => ?_
    simp only [Function.comp, vA, memKid]
    cases numOf rs f.name <;> rfl
  · have e : memNB.map (vB rs) = (memNB.map (· ++ bytesS)).map (fun x => vB rs (x.take (x.length - 5))) := by
      rw [List.map_map]
      refine List.map_congr_left fun x _ => ?_
      simp only [Function.comp, List.length_append]
      rw [show x.length + bytesS.length - 5 = x.length from by simp [bytesS], List.take_left]
    rw [e, zip_self, List.map_map]
    unfold memNB
    rw [List.map_map]
    refine List.map_congr_left fun f _ => ?_
    simp only [Function.comp, vB, memKidB, List.length_append]
    rw [show f.name.length + bytesS.length - 5 = f.name.length from by simp [bytesS], List.take_left]
    cases numOf rs f.name <;> rfl

def S4040 (F : List SV → Option AV) : Prop := ∀ rs : List RowD, F [.str [], .agg (memV rs)] = some (.sv (memTree rs))

set_option maxRecDepth 100000 in
set_option maxHeartbeats 4000000 in
theorem ev4040 (E : Env) (h : E.code 40 = some c4040) (h45 : Has E 67 S1145) : S4040 (autoF E 40) := by
  obtain ⟨F, pF, sF⟩ := h45
  intro rs
  have hrun := blks_run E (evF E 1) 1 pF sF tl4040 (memV rs) (memV_len rs) (memV_plain rs) (memV_ok rs) memBlks 0 [] (by unfold memBlks; simp) (fun x hx => by rw [← memBlks_snd]; exact List.mem_map.2 ⟨x, hx, rfl⟩) (by rw [memBlks_len]) rfl
  rw [List.drop_zero, memKids, List.nil_append, tl_run E (evF E 1) 1 (memV rs) _ (by rw [List.length_append, List.length_map, memTab_len]; omega)] at hrun
  have hcan := memV_can rs
  have hlen := memV_len rs
  have hpv := memV_plain rs
  refine autoA_sv (n := 1) ?_ rfl
  unfold evPA
  rw [h, cut4040]
  unfold memTree nodeV
  generalize memTab.map (memKid rs) ++ memTabB.map (memKidB rs) = K at *
  generalize memV rs = V at *
  unfold st4040 ndBox zND accC2 at hrun
  generalize hB : blks 0 memBlks tl4040 = B at *
  unfold d4040
  rw [hB]
  simp [hcan, hlen, hpv, hrun]

theorem setCells_at : ∀ (V : List SV) (A C : List Cell), V.length = C.length → setCells (A ++ C) A.length V = A ++ V.map Cell.sv
  | [], A, C, h => by
    have : C = [] := List.eq_nil_of_length_eq_zero h.symm
    subst this
    simp [setCells]
  | v :: V, A, c :: C, h => by
    simp only [List.length_cons, Nat.add_right_cancel_iff] at h
    have := setCells_at V (A ++ [.sv v]) C h
    rw [List.length_append] at this
    unfold setCells
    rw [List.set_append_right _ _ (Nat.le_refl _), Nat.sub_self, List.set_cons_zero]
    simpa using this

theorem setAll (V : List SV) (C : List Cell) (h : V.length = C.length) : setCells C 0 V = V.map Cell.sv := setCells_at V [] C h

def S4039 (F : List SV → Option AV) : Prop := ∀ rs : List RowD, F [.agg (memV rs)] = some (.sv (memTree rs))

set_option maxRecDepth 100000 in
theorem ev4039 (E : Env) (h : E.code 39 = some c4039) (h40 : Has E 40 S4040) : S4039 (autoF E 39) := by
  obtain ⟨F, pF, sF⟩ := h40
  intro rs
  have hF := sF rs
  have hcan := memV_can rs
  have hlen := memV_len rs
  have hpv := memV_plain rs
  refine autoA_sv (n := 1) ?_ rfl
  unfold evPA
  simp only [h]
  unfold memTree nodeV at *
  generalize memTab.map (memKid rs) ++ memTabB.map (memKidB rs) = K at *
  generalize memV rs = V at *
  have htk : V.take 106 = V := List.take_of_length_le (by omega)
  have hcell := cellsV V 0 [] []
  simp [-List.map_map, cellsAtA] at hcell
  have hpv' : List.map Cell.plain (List.map Cell.sv V) = V := by rw [List.map_map]; exact hpv
  simp [-List.map_map, c4039, hcan, hlen, hpv, hpv', htk, hcell, setAll, pF, hF]

def S4038 (F : List SV → Option AV) : Prop := ∀ (s : List UInt8) (rs : List RowD), memRd s rs → memOk rs = true → s.length ≤ 40000 → F [.agg [.str s]] = some (.sv (.tup [.agg (memV rs), .nilI]))

set_option maxRecDepth 100000 in
theorem ev4038 (E : Env) (h : E.code 38 = some c4038) (h85 : E.pure 64 = some F85) (h99 : E.pure 63 = some F99) (h65 : Has E 65 S4065) : S4038 (autoF E 38) := by
  obtain ⟨F, pF, sF⟩ := h65
  intro s rs hrd hok hs
  have hF := sF s rs hrd hok hs
  have hcan := memV_can rs
  have hlen := memV_len rs
  have hpv := memV_plain rs
  have hF99 : F99 [.str s] = some (.sv (.tup [.sl (bytesSV s), .nilI])) := onlyIf_pos (by omega)
  have hb := svBytes_bytes s
  refine autoA_sv (n := 1) ?_ rfl
  unfold evPA
  simp only [h]
  generalize memV rs = V at *
  generalize bytesSV s = bs at *
  have htk : V.take 106 = V := List.take_of_length_le (by omega)
  have hcell := cellsV V 0 [] []
  simp [-List.map_map, cellsAtA] at hcell
  have hpv' : List.map Cell.plain (List.map Cell.sv V) = V := by rw [List.map_map]; exact hpv
  simp [-List.map_map, c4038, h85, F85, h99, hF99, hb, pF, hF, hcan, hlen, hpv, hpv', htk, hcell, setAll]

def S4036 (F : List SV → Option AV) : Prop := ∀ (s : List UInt8) (rs : List RowD), memRd s rs → memOk rs = true → s.length ≤ 40000 → F [.fn 38 [.agg [.str s]] [], .fn 39 [] []] = some (.sv (.tup [memTree rs, .int .i64 0]))

set_option maxRecDepth 100000 in
theorem ev4036 (E : Env) (h : E.code 36 = some c4036) (hq : E.quiet 62 = true) (hS : Has E 38 S4038) (hC : Has E 39 S4039) : S4036 (autoF E 36) := by
  obtain ⟨F, pF, sF⟩ := hS
  obtain ⟨G, pG, sG⟩ := hC
  intro s rs hrd hok hs
  have hF := sF s rs hrd hok hs
  have hG := sG rs
  have hcan := memV_can rs
  have hlen := memV_len rs
  have hpv := memV_plain rs
  refine autoA_sv (n := 1) ?_ rfl
  unfold evPA
  simp only [h]
  unfold memTree nodeV at *
  generalize memTab.map (memKid rs) ++ memTabB.map (memKidB rs) = K at *
  generalize memV rs = V at *
  have htk : V.take 106 = V := List.take_of_length_le (by omega)
  have hcell := cellsV V 0 [] []
  simp [-List.map_map, cellsAtA] at hcell
  have hpv' : List.map Cell.plain (List.map Cell.sv V) = V := by rw [List.map_map]; exact hpv
  simp [-List.map_map, c4036, pF, hF, pG, hG, hq, hcan, hlen, hpv, hpv', htk, hcell, setAll]

def S4013 (F : List SV → Option AV) : Prop := SDoorG memRd memOk memTree F

theorem ev4013 (E : Env) (h : E.code 13 = some c4013) (h38 : E.pure 37 = some F38) (hT : Has E 36 S4036) : S4013 (autoF E 13) := by
  obtain ⟨F, pF, sF⟩ := hT
  intro s rs hrd hok hf hs
  have hF := sF s rs hrd hok hs
  refine autoA_sv (n := 1) ?_ rfl
  unfold evPA
  simp only [h]
  unfold memTree nodeV at *
  generalize memTab.map (memKid rs) ++ memTabB.map (memKidB rs) = K at *
  simp [c4013, h38, F38, pF, hF]

/-! ### The laws -/

theorem memKid_node (rs : List RowD) (f : MemF) : IsNode (memKid rs f) := by
  unfold memKid
  split
  · exact .mk _ _ _ _ _ _ _ [] (by simp) (by simp)
  · exact .mk _ _ _ _ _ _ _ [] (by simp) (by simp)

theorem memKidB_node (rs : List RowD) (f : MemF) : IsNode (memKidB rs f) := by
  unfold memKidB
  split
  · exact .mk _ _ _ _ _ _ _ [] (by simp) (by simp)
  · exact .mk _ _ _ _ _ _ _ [] (by simp) (by simp)

theorem memLaw : LawG memRd memOk memText memTree where
  back := fun rs _ ho => memBack ho
  node := fun rs _ ho => by
    unfold memTree
    refine .mk _ _ _ _ _ _ _ _ (by rw [List.length_append, List.length_map, List.length_map, memTab_len, memTabB_len]; omega) fun k hk => ?_
    rcases List.mem_append.1 hk with hk | hk
    · obtain ⟨f, _, rfl⟩ := List.mem_map.1 hk
      exact memKid_node rs f
    · obtain ⟨f, _, rfl⟩ := List.mem_map.1 hk
      exact memKidB_node rs f

def S9me (F : List SV → Option AV) : Prop := S9g 15 12 13 F
def S13me (F : List SV → Option AV) : Prop := S9g 15 11 13 F
def S1016me (F : List SV → Option AV) : Prop := S1016g 11 12 13 F

theorem ev9me (E : Env) (h : E.code 16 = some c9) (hR : Has E 15 S4015) (hT : Has E 12 S4012) (hD : Has E 13 S4013) (h25 : E.pure 22 = some F25) (h26 : E.pure 23 = some F26) (h27 : E.pure 24 = some F27) : S9me (autoF E 16) := ev9G memLaw E h _ _ _ hR hT hD h25 h26 h27
theorem ev13me (E : Env) (h : E.code 14 = some c13) (hR : Has E 15 S4015) (hP : Has E 11 S4011) (hD : Has E 13 S4013) (h25 : E.pure 22 = some F25) (h26 : E.pure 23 = some F26) (h27 : E.pure 24 = some F27) : S13me (autoF E 14) := ev13G memLaw E h _ _ _ hR hP hD h25 h26 h27
theorem ev1016me (E : Env) (h : E.code 10 = some c1016) (hP : Has E 11 S4011) (hT : Has E 12 S4012) (hD : Has E 13 S4013) (h25 : E.pure 22 = some F25) (h26 : E.pure 23 = some F26) (h27 : E.pure 24 = some F27) : S1016me (autoF E 10) := ev1016G memLaw E h _ _ _ hP hT hD h25 h26 h27

theorem ev4005 (E : Env) (h : E.code 5 = some c4005) (hL : Has E 16 S9me) (s : List UInt8) (n : Nat) : evP E n 5 [.str s] = some (.sv (.bool true)) := by
  obtain ⟨F, hp, hF⟩ := hL
  have hF1 := hF s
  unfold evP
  simp only [h]
  by_cases hs : 2147483647 < s.length
  · have e : (2147483647 : Int) < (s.length : Int) := by omega
    simp [c4005, List.replicate, e]
  · have e : ¬ (2147483647 : Int) < (s.length : Int) := by omega
    simp [c4005, List.replicate, e, hp, hF1]

theorem ev4004 (E : Env) (h : E.code 4 = some c4004) (hL : Has E 14 S13me) (s : List UInt8) (n : Nat) : evP E n 4 [.str s] = some (.sv (.bool true)) := by
  obtain ⟨F, hp, hF⟩ := hL
  have hF1 := hF s
  unfold evP
  simp only [h]
  by_cases hs : 2147483647 < s.length
  · have e : (2147483647 : Int) < (s.length : Int) := by omega
    simp [c4004, List.replicate, e]
  · have e : ¬ (2147483647 : Int) < (s.length : Int) := by omega
    simp [c4004, List.replicate, e, hp, hF1]

theorem ev4003 (E : Env) (h : E.code 3 = some c4003) (h15 : E.pure 9 = some F1015) (h16 : Has E 10 S1016me) (l : List RowD) (hn : ∀ r ∈ l, ∀ n ∈ r.N, n < 18446744073709551616) (n : Nat) : evP E n 3 [.sl (rowsSV l)] = some (.sv (.bool true)) := by
  obtain ⟨G, hp, hG⟩ := h16
  unfold evP
  simp only [h]
  have hF := F1015_eq l
  cases hz : zzRows l with
  | false => rw [hz] at hF; simp [c4003, List.replicate, h15, hF]
  | true =>
    rw [hz] at hF
    have hF2 := hG l hz hn
    simp [c4003, List.replicate, h15, hF, hp, hF2]

end Go.Ev

set_option linter.unusedSimpArgs false
set_option linter.unusedVariables false
namespace Go.Ev
open Go.Proofs
variable {P : Program} {E : Env}

/-- A law of one text. -/
theorem ptOf (B : Base P E) {f : Nat} (h : ∀ s n, evP E n f [.str s] = some (.sv (.bool true))) : PureFn P E f F8x := by
  refine PureFn.of B.m B.T B.Q B.P fun vs r hF => ?_
  unfold F8x at hF
  split at hF
  · rename_i s
    simp only [Option.some.injEq] at hF; subst hF
    exact ⟨1, _, h s 1, .inl rfl⟩
  · cases hF

/-- A law of rows. -/
theorem pbOf (B : Base P E) {f : Nat} (h : ∀ l : List RowD, (∀ r ∈ l, ∀ n ∈ r.N, n < 18446744073709551616) → ∀ n, evP E n f [.sl (rowsSV l)] = some (.sv (.bool true))) : PureFn P E f F1003 := by
  refine PureFn.of B.m B.T B.Q B.P fun vs r hF => ?_
  unfold F1003 at hF
  split at hF
  · rename_i l
    obtain ⟨⟨h1, h2⟩, hr⟩ := onlyIf_some hF
    simp only [Option.some.injEq] at hr; subst hr
    refine ⟨1, _, ?_, .inl rfl⟩
    have := h (l.map unrow) h2 1
    rw [← h1] at this
    exact this
  · cases hF

end Go.Ev
