/- NFS: the server: the door, whole; the laws (lines printed by a program of this work). -/
/- Entries of the NFS server's reading. -/
import Derived.Test.YtcjebcenbimcgaaGreatDoorGbe
import Derived.Test.YtcjebcenbimcgaaGreatDoorGbd
import Derived.Test.YtcjebcenbimcgaaGreatDoorGas
import Derived.Test.YtcjebcenbimcgaaGreatDoorGaq
set_option linter.unusedSimpArgs false
set_option linter.unusedVariables false
namespace Go.Ev
open Go.Proofs
theorem fillK_zeros : ∀ fs : List (List UInt8), fillK fs (List.replicate fs.length 0) = fillK fs []
  | [] => rfl
  | f :: fs => by
    have ih := fillK_zeros fs
    simp only [List.length_cons, List.replicate_succ, fillK]
    rw [ih]
theorem fillK_take : ∀ (fs : List (List UInt8)) (ns : List Nat), fillK fs (ns.take fs.length) = fillK fs ns
  | [], ns => by cases ns <;> rfl
  | f :: fs, [] => by simp
  | f :: fs, n :: ns => by
    have ih := fillK_take fs ns
    simp only [List.length_cons, List.take_succ_cons, fillK]
    rw [ih]
theorem u64s_can0 (ns : List Nat) : (u64s ns).map SV.can0 = u64s ns := by
  unfold u64s
  rw [List.map_map]; rfl
theorem zeros_u64 (k : Nat) : zeros k = u64s (List.replicate k 0) := by simp [zeros, u64s]
theorem part_u {d : List RowD} {lab : List UInt8} {k : Nat} {fs : List (List UInt8)} (hf : fs.length = k) (hk : ∀ r, rowOf d lab = some r → r.N.length = k) : ∃ ns, layPart d ⟨lab, u64s, zeros k⟩ = u64s ns ∧ ns.length = k ∧ fillK fs (numsOf d lab) = fillK fs ns := by
  unfold layPart
  rw [numsOf_row]
  simp only
  cases hv : rowOf d lab with
  | none => exact ⟨List.replicate k 0, zeros_u64 k, by simp, by subst hf; exact (fillK_zeros fs).symm⟩
  | some r => exact ⟨r.N, rfl, hk r hv, rfl⟩
theorem part_t {d : List RowD} {lab : List UInt8} {k : Nat} {fs : List (List UInt8)} (hf : fs.length = k) (hk : ∀ r, rowOf d lab = some r → k ≤ r.N.length) : ∃ ns, layPart d ⟨lab, fun ns => u64s (ns.take k), zeros k⟩ = u64s ns ∧ ns.length = k ∧ fillK fs (numsOf d lab) = fillK fs ns := by
  unfold layPart
  rw [numsOf_row]
  simp only
  cases hv : rowOf d lab with
  | none => exact ⟨List.replicate k 0, zeros_u64 k, by simp, by subst hf; exact (fillK_zeros fs).symm⟩
  | some r => exact ⟨r.N.take k, rfl, by have := hk r hv; rw [List.length_take]; omega, by subst hf; exact (fillK_take fs r.N).symm⟩
theorem part_ra (d : List RowD) (lab : List UInt8) : ∃ (a b : Nat) (ns : List Nat), (layPart d ⟨lab, raVals, [.int .u64 0, .nilS, .int .u64 0]⟩).map SV.can0 = [.int .u64 (a : Int), .sl (u64s ns), .int .u64 (b : Int)] ∧ ns.length < 100 ∧ (numsOf d lab).getD 0 0 = a ∧ (numsOf d lab).getD 11 0 = b ∧ ((numsOf d lab).drop 1).take 10 = ns := by
  unfold layPart
  rw [numsOf_row]
  simp only
  cases hv : rowOf d lab with
  | none => exact ⟨0, 0, [], rfl, by simp, rfl, rfl, rfl⟩
  | some r => exact ⟨r.N.getD 0 0, r.N.getD 11 0, (r.N.drop 1).take 10, rfl, by rw [List.length_take]; omega, rfl, rfl, rfl⟩
theorem part_w {d : List RowD} {lab : List UInt8} (hk : ∀ r, rowOf d lab = some r → r.N.length = 1) : layPart d ⟨lab, u64s, zeros 1⟩ = [.int .u64 (((numsOf d lab).getD 0 0 : Nat) : Int)] := by
  unfold layPart
  rw [numsOf_row]
  simp only
  cases hv : rowOf d lab with
  | none => rfl
  | some r =>
    have := hk r hv
    obtain ⟨nm, N, SS⟩ := r
    match N, this with
    | [x], _ => rfl
theorem lay_split (pre post : List Lay) (p : Lay) (d : List RowD) : (layCells (pre ++ p :: post) d).map SV.can0 = (layCells pre d).map SV.can0 ++ ((layPart d p).map SV.can0 ++ (layCells post d).map SV.can0) := by
  unfold layCells
  simp
theorem lay_part {pre post : List Lay} {p : Lay} {d : List RowD} (hg : layGood pre d) {off k : Nat} (ho : (pre.map fun q => q.zero.length).sum = off) {B : List SV} (hB : (layPart d p).map SV.can0 = B) (hk : B.length = k) : (cellsAtA (stC (((layCells (pre ++ p :: post) d).map SV.can0).map Cell.sv)) (.ptr 0 off)).bind (takeN (some k)) = some (.agg (B.map SV.can0)) := by
  rw [cellsC, lay_split, hB]
  exact partC (by rw [List.length_map, lay_len hg, ho]) hk
theorem lay_part1 {pre post : List Lay} {p : Lay} {d : List RowD} (hg : layGood pre d) {off : Nat} (ho : (pre.map fun q => q.zero.length).sum = off) {b : SV} (hB : (layPart d p).map SV.can0 = [b]) : (cellsAtA (stC (((layCells (pre ++ p :: post) d).map SV.can0).map Cell.sv)) (.ptr 0 off)).bind (takeN none) = some b := by
  rw [cellsC, lay_split, hB]
  exact partC1 (by rw [List.length_map, lay_len hg, ho])
theorem lay_part2 {pre post : List Lay} {p : Lay} {d : List RowD} (hg : layGood pre d) {off : Nat} (ho : (pre.map fun q => q.zero.length).sum = off) {b : SV} (hB : (layPart d p).map SV.can0 = [b]) : ((layCells (pre ++ p :: post) d).map SV.can0)[off]? = some b := by
  rw [lay_split, hB]
  exact partC2 (by rw [List.length_map, lay_len hg, ho])
theorem srvRow {rs : List RowD} (h : srvOk rs = true) {s : List UInt8} {r : RowD} (hr : rowOf rs s = some r) : nfWant nfSrv s r.N.length = some r.N.length := by
  obtain ⟨m1, m2⟩ := rowOf_mem hr
  have := srvOk_want h m1
  rw [m2] at this
  exact this
def srvCs (rs : List RowD) : List SV := (layCells srvLay rs).map SV.can0
theorem can0_can0 (v : SV) : v.can0.can0 = v.can0 := by cases v <;> rfl
theorem srvCs_len {rs : List RowD} (h : srvOk rs = true) : (srvCs rs).length = 107 := by
  unfold srvOk nfOk at h
  simp only [Bool.and_eq_true, List.all_eq_true] at h
  unfold srvCs
  rw [List.length_map, lay_len (srvGood h.1)]
  rfl
theorem srvCs_can0 (rs : List RowD) : (srvCs rs).map SV.can0 = srvCs rs := by
  unfold srvCs
  rw [List.map_map]
  exact List.map_congr_left fun v _ => can0_can0 v
def S3103 (F : List SV → Option AV) : Prop := ∀ rs : List RowD, srvOk rs = true → rowsFit3 rs → F [.str [], .agg (srvCs rs)] = some (.sv (srvTree rs))
set_option maxRecDepth 100000 in
set_option maxHeartbeats 4000000 in
theorem ev3103 (E : Env) (h : E.code 103 = some c3103) (h3176 : Has E 176 S3176) (h3177 : Has E 177 S3177) (h3178 : Has E 178 S3178) (h3179 : Has E 179 S3179) (h3180 : Has E 180 S3180) (h3161 : Has E 161 S3161) (h3181 : Has E 181 S3181) (h3163 : Has E 163 S3163) (h3164 : Has E 164 S3164) (h3182 : Has E 182 S3182) (h3183 : Has E 183 S3183) : S3103 (autoF E 103) := by
  obtain ⟨T0, t0, z0⟩ := h3176
  obtain ⟨T1, t1, z1⟩ := h3177
  obtain ⟨T2, t2, z2⟩ := h3178
  obtain ⟨T3, t3, z3⟩ := h3179
  obtain ⟨T4, t4, z4⟩ := h3180
  obtain ⟨T5, t5, z5⟩ := h3161
  obtain ⟨T6, t6, z6⟩ := h3181
  obtain ⟨T7, t7, z7⟩ := h3163
  obtain ⟨T8, t8, z8⟩ := h3164
  obtain ⟨T9, t9, z9⟩ := h3182
  obtain ⟨T10, t10, z10⟩ := h3183
  intro rs hok hf
  have hok' := hok
  unfold srvOk nfOk at hok'
  simp only [Bool.and_eq_true, List.all_eq_true] at hok'
  have hgood := srvGood hok'.1
  have hlen := srvCs_len hok
  obtain ⟨n0, b0, l0, f0⟩ := part_u (d := rs) (lab := [114, 99]) (k := 3) (fs := [[72, 105, 116, 115], [77, 105, 115, 115, 101, 115], [78, 111, 67, 97, 99, 104, 101]]) rfl (fun r hr => by
    have hw := srv_names (srvRow hok hr)
    have hk : r.N.length = 3 := by simpa using hw
    exact hk)
  have b0' : (layPart rs ⟨[114, 99], u64s, zeros 3⟩).map SV.can0 = u64s n0 := by rw [b0]; exact u64s_can0 _
  have y0 := lay_part (pre := srvLay.take 0) (post := srvLay.drop 1) (fun q hq => hgood q (List.mem_of_mem_take hq)) (off := 0) (k := 3) rfl b0' (by rw [u64s_length, l0])
  rw [u64s_can0] at y0
  have e0 := z0 [82, 101, 112, 108, 121, 67, 97, 99, 104, 101] n0 l0
  obtain ⟨n1, b1, l1, f1⟩ := part_u (d := rs) (lab := [102, 104]) (k := 5) (fs := [[83, 116, 97, 108, 101], [84, 111, 116, 97, 108, 76, 111, 111, 107, 117, 112, 115], [65, 110, 111, 110, 76, 111, 111, 107, 117, 112, 115], [68, 105, 114, 78, 111, 67, 97, 99, 104, 101], [78, 111, 68, 105, 114, 78, 111, 67, 97, 99, 104, 101]]) rfl (fun r hr => by
    have hw := srv_names (srvRow hok hr)
    have hk : r.N.length = 5 := by simpa using hw
    exact hk)
  have b1' : (layPart rs ⟨[102, 104], u64s, zeros 5⟩).map SV.can0 = u64s n1 := by rw [b1]; exact u64s_can0 _
  have y1 := lay_part (pre := srvLay.take 1) (post := srvLay.drop 2) (fun q hq => hgood q (List.mem_of_mem_take hq)) (off := 3) (k := 5) rfl b1' (by rw [u64s_length, l1])
  rw [u64s_can0] at y1
  have e1 := z1 [70, 105, 108, 101, 72, 97, 110, 100, 108, 101, 115] n1 l1
  obtain ⟨n2, b2, l2, f2⟩ := part_u (d := rs) (lab := [105, 111]) (k := 2) (fs := [[82, 101, 97, 100], [87, 114, 105, 116, 101]]) rfl (fun r hr => by
    have hw := srv_names (srvRow hok hr)
    have hk : r.N.length = 2 := by simpa using hw
    exact hk)
  have b2' : (layPart rs ⟨[105, 111], u64s, zeros 2⟩).map SV.can0 = u64s n2 := by rw [b2]; exact u64s_can0 _
  have y2 := lay_part (pre := srvLay.take 2) (post := srvLay.drop 3) (fun q hq => hgood q (List.mem_of_mem_take hq)) (off := 8) (k := 2) rfl b2' (by rw [u64s_length, l2])
  rw [u64s_can0] at y2
  have e2 := z2 [73, 110, 112, 117, 116, 79, 117, 116, 112, 117, 116] n2 l2
  obtain ⟨n3, b3, l3, f3⟩ := part_u (d := rs) (lab := [116, 104]) (k := 2) (fs := [[84, 104, 114, 101, 97, 100, 115], [70, 117, 108, 108, 67, 110, 116]]) rfl (fun r hr => by
    have hw := srv_names (srvRow hok hr)
    have hk : r.N.length = 2 := by simpa using hw
    exact hk)
  have b3' : (layPart rs ⟨[116, 104], u64s, zeros 2⟩).map SV.can0 = u64s n3 := by rw [b3]; exact u64s_can0 _
  have y3 := lay_part (pre := srvLay.take 3) (post := srvLay.drop 4) (fun q hq => hgood q (List.mem_of_mem_take hq)) (off := 10) (k := 2) rfl b3' (by rw [u64s_length, l3])
  rw [u64s_can0] at y3
  have e3 := z3 [84, 104, 114, 101, 97, 100, 115] n3 l3
  obtain ⟨xa, xb, xn, b4, l4, r1, r2, r3⟩ := part_ra rs [114, 97]
  have y4 := lay_part (pre := srvLay.take 4) (post := srvLay.drop 5) (fun q hq => hgood q (List.mem_of_mem_take hq)) (off := 12) (k := 3) rfl b4 rfl
  have e4 := z4 [82, 101, 97, 100, 65, 104, 101, 97, 100, 67, 97, 99, 104, 101] xa xb xn (by omega)
  obtain ⟨n5, b5, l5, f5⟩ := part_u (d := rs) (lab := [110, 101, 116]) (k := 4) (fs := [[78, 101, 116, 67, 111, 117, 110, 116], [85, 68, 80, 67, 111, 117, 110, 116], [84, 67, 80, 67, 111, 117, 110, 116], [84, 67, 80, 67, 111, 110, 110, 101, 99, 116]]) rfl (fun r hr => by
    have hw := srv_names (srvRow hok hr)
    have hk : r.N.length = 4 := by simpa using hw
    exact hk)
  have b5' : (layPart rs ⟨[110, 101, 116], u64s, zeros 4⟩).map SV.can0 = u64s n5 := by rw [b5]; exact u64s_can0 _
  have y5 := lay_part (pre := srvLay.take 5) (post := srvLay.drop 6) (fun q hq => hgood q (List.mem_of_mem_take hq)) (off := 15) (k := 4) rfl b5' (by rw [u64s_length, l5])
  rw [u64s_can0] at y5
  have e5 := z5 [78, 101, 116, 119, 111, 114, 107] n5 l5
  obtain ⟨n6, b6, l6, f6⟩ := part_u (d := rs) (lab := [114, 112, 99]) (k := 5) (fs := [[82, 80, 67, 67, 111, 117, 110, 116], [66, 97, 100, 67, 110, 116], [66, 97, 100, 70, 109, 116], [66, 97, 100, 65, 117, 116, 104], [66, 97, 100, 99, 73, 110, 116]]) rfl (fun r hr => by
    have hw := srv_names (srvRow hok hr)
    have hk : r.N.length = 5 := by simpa using hw
    exact hk)
  have b6' : (layPart rs ⟨[114, 112, 99], u64s, zeros 5⟩).map SV.can0 = u64s n6 := by rw [b6]; exact u64s_can0 _
  have y6 := lay_part (pre := srvLay.take 6) (post := srvLay.drop 7) (fun q hq => hgood q (List.mem_of_mem_take hq)) (off := 19) (k := 5) rfl b6' (by rw [u64s_length, l6])
  rw [u64s_can0] at y6
  have e6 := z6 [83, 101, 114, 118, 101, 114, 82, 80, 67] n6 l6
  obtain ⟨n7, b7, l7, f7⟩ := part_u (d := rs) (lab := [112, 114, 111, 99, 50]) (k := 18) (fs := nf_v2) rfl (fun r hr => by
    have hw := srv_names (srvRow hok hr)
    have hk : r.N.length = 18 := by simpa using hw
    exact hk)
  have b7' : (layPart rs ⟨[112, 114, 111, 99, 50], u64s, zeros 18⟩).map SV.can0 = u64s n7 := by rw [b7]; exact u64s_can0 _
  have y7 := lay_part (pre := srvLay.take 7) (post := srvLay.drop 8) (fun q hq => hgood q (List.mem_of_mem_take hq)) (off := 24) (k := 18) rfl b7' (by rw [u64s_length, l7])
  rw [u64s_can0] at y7
  have e7 := z7 [86, 50, 83, 116, 97, 116, 115] n7 l7
  obtain ⟨n8, b8, l8, f8⟩ := part_u (d := rs) (lab := [112, 114, 111, 99, 51]) (k := 22) (fs := nf_v3) rfl (fun r hr => by
    have hw := srv_names (srvRow hok hr)
    have hk : r.N.length = 22 := by simpa using hw
    exact hk)
  have b8' : (layPart rs ⟨[112, 114, 111, 99, 51], u64s, zeros 22⟩).map SV.can0 = u64s n8 := by rw [b8]; exact u64s_can0 _
  have y8 := lay_part (pre := srvLay.take 8) (post := srvLay.drop 9) (fun q hq => hgood q (List.mem_of_mem_take hq)) (off := 42) (k := 22) rfl b8' (by rw [u64s_length, l8])
  rw [u64s_can0] at y8
  have e8 := z8 [86, 51, 83, 116, 97, 116, 115] n8 l8
  obtain ⟨n9, b9, l9, f9⟩ := part_u (d := rs) (lab := [112, 114, 111, 99, 52]) (k := 2) (fs := [[78, 117, 108, 108], [67, 111, 109, 112, 111, 117, 110, 100]]) rfl (fun r hr => by
    have hw := srv_names (srvRow hok hr)
    have hk : r.N.length = 2 := by simpa using hw
    exact hk)
  have b9' : (layPart rs ⟨[112, 114, 111, 99, 52], u64s, zeros 2⟩).map SV.can0 = u64s n9 := by rw [b9]; exact u64s_can0 _
  have y9 := lay_part (pre := srvLay.take 9) (post := srvLay.drop 10) (fun q hq => hgood q (List.mem_of_mem_take hq)) (off := 64) (k := 2) rfl b9' (by rw [u64s_length, l9])
  rw [u64s_can0] at y9
  have e9 := z9 [83, 101, 114, 118, 101, 114, 86, 52, 83, 116, 97, 116, 115] n9 l9
  obtain ⟨n10, b10, l10, f10⟩ := part_t (d := rs) (lab := [112, 114, 111, 99, 52, 111, 112, 115]) (k := 40) (fs := nf_v4Ops) rfl (fun r hr => by
    have hw := srv_names (srvRow hok hr)
    have hk : 40 ≤ r.N.length := by simpa using hw
    exact hk)
  have b10' : (layPart rs ⟨[112, 114, 111, 99, 52, 111, 112, 115], (fun ns => u64s (ns.take 40)), zeros 40⟩).map SV.can0 = u64s n10 := by rw [b10]; exact u64s_can0 _
  have y10 := lay_part (pre := srvLay.take 10) (post := srvLay.drop 11) (fun q hq => hgood q (List.mem_of_mem_take hq)) (off := 66) (k := 40) rfl b10' (by rw [u64s_length, l10])
  rw [u64s_can0] at y10
  have e10 := z10 [86, 52, 79, 112, 115] n10 l10
  have b11 := part_w (d := rs) (lab := [119, 100, 101, 108, 101, 103, 95, 103, 101, 116, 97, 116, 116, 114]) (fun r hr => by
    have hw := srv_names (srvRow hok hr)
    have hk : r.N.length = 1 := by simpa using hw
    exact hk)
  have b11' : (layPart rs ⟨[119, 100, 101, 108, 101, 103, 95, 103, 101, 116, 97, 116, 116, 114], u64s, zeros 1⟩).map SV.can0 = [.int .u64 (((numsOf rs [119, 100, 101, 108, 101, 103, 95, 103, 101, 116, 97, 116, 116, 114]).getD 0 0 : Nat) : Int)] := by rw [b11]; rfl
  have y11 := lay_part1 (pre := srvLay.take 11) (post := srvLay.drop 12) (fun q hq => hgood q (List.mem_of_mem_take hq)) (off := 106) rfl b11'
  have x11 := lay_part2 (pre := srvLay.take 11) (post := srvLay.drop 12) (fun q hq => hgood q (List.mem_of_mem_take hq)) (off := 106) rfl b11'
  have k0 : srvKid rs ⟨[114, 99], [82, 101, 112, 108, 121, 67, 97, 99, 104, 101], [[72, 105, 116, 115], [77, 105, 115, 115, 101, 115], [78, 111, 67, 97, 99, 104, 101]]⟩ = fillN [82, 101, 112, 108, 121, 67, 97, 99, 104, 101] [[72, 105, 116, 115], [77, 105, 115, 115, 101, 115], [78, 111, 67, 97, 99, 104, 101]] n0 := by
    unfold srvKid
    rw [if_neg (by decide)]
    unfold fillN
    simp only
    rw [f0]
  have k1 : srvKid rs ⟨[102, 104], [70, 105, 108, 101, 72, 97, 110, 100, 108, 101, 115], [[83, 116, 97, 108, 101], [84, 111, 116, 97, 108, 76, 111, 111, 107, 117, 112, 115], [65, 110, 111, 110, 76, 111, 111, 107, 117, 112, 115], [68, 105, 114, 78, 111, 67, 97, 99, 104, 101], [78, 111, 68, 105, 114, 78, 111, 67, 97, 99, 104, 101]]⟩ = fillN [70, 105, 108, 101, 72, 97, 110, 100, 108, 101, 115] [[83, 116, 97, 108, 101], [84, 111, 116, 97, 108, 76, 111, 111, 107, 117, 112, 115], [65, 110, 111, 110, 76, 111, 111, 107, 117, 112, 115], [68, 105, 114, 78, 111, 67, 97, 99, 104, 101], [78, 111, 68, 105, 114, 78, 111, 67, 97, 99, 104, 101]] n1 := by
    unfold srvKid
    rw [if_neg (by decide)]
    unfold fillN
    simp only
    rw [f1]
  have k2 : srvKid rs ⟨[105, 111], [73, 110, 112, 117, 116, 79, 117, 116, 112, 117, 116], [[82, 101, 97, 100], [87, 114, 105, 116, 101]]⟩ = fillN [73, 110, 112, 117, 116, 79, 117, 116, 112, 117, 116] [[82, 101, 97, 100], [87, 114, 105, 116, 101]] n2 := by
    unfold srvKid
    rw [if_neg (by decide)]
    unfold fillN
    simp only
    rw [f2]
  have k3 : srvKid rs ⟨[116, 104], [84, 104, 114, 101, 97, 100, 115], [[84, 104, 114, 101, 97, 100, 115], [70, 117, 108, 108, 67, 110, 116]]⟩ = fillN [84, 104, 114, 101, 97, 100, 115] [[84, 104, 114, 101, 97, 100, 115], [70, 117, 108, 108, 67, 110, 116]] n3 := by
    unfold srvKid
    rw [if_neg (by decide)]
    unfold fillN
    simp only
    rw [f3]
  have k4 : srvKid rs ⟨[114, 97], [82, 101, 97, 100, 65, 104, 101, 97, 100, 67, 97, 99, 104, 101], []⟩ = raNode [82, 101, 97, 100, 65, 104, 101, 97, 100, 67, 97, 99, 104, 101] xa xb xn := by
    unfold srvKid
    rw [if_pos (by rfl)]
    simp only
    rw [r1, r2, r3]
  have k5 : srvKid rs ⟨[110, 101, 116], [78, 101, 116, 119, 111, 114, 107], [[78, 101, 116, 67, 111, 117, 110, 116], [85, 68, 80, 67, 111, 117, 110, 116], [84, 67, 80, 67, 111, 117, 110, 116], [84, 67, 80, 67, 111, 110, 110, 101, 99, 116]]⟩ = fillN [78, 101, 116, 119, 111, 114, 107] [[78, 101, 116, 67, 111, 117, 110, 116], [85, 68, 80, 67, 111, 117, 110, 116], [84, 67, 80, 67, 111, 117, 110, 116], [84, 67, 80, 67, 111, 110, 110, 101, 99, 116]] n5 := by
    unfold srvKid
    rw [if_neg (by decide)]
    unfold fillN
    simp only
    rw [f5]
  have k6 : srvKid rs ⟨[114, 112, 99], [83, 101, 114, 118, 101, 114, 82, 80, 67], [[82, 80, 67, 67, 111, 117, 110, 116], [66, 97, 100, 67, 110, 116], [66, 97, 100, 70, 109, 116], [66, 97, 100, 65, 117, 116, 104], [66, 97, 100, 99, 73, 110, 116]]⟩ = fillN [83, 101, 114, 118, 101, 114, 82, 80, 67] [[82, 80, 67, 67, 111, 117, 110, 116], [66, 97, 100, 67, 110, 116], [66, 97, 100, 70, 109, 116], [66, 97, 100, 65, 117, 116, 104], [66, 97, 100, 99, 73, 110, 116]] n6 := by
    unfold srvKid
    rw [if_neg (by decide)]
    unfold fillN
    simp only
    rw [f6]
  have k7 : srvKid rs ⟨[112, 114, 111, 99, 50], [86, 50, 83, 116, 97, 116, 115], nf_v2⟩ = fillN [86, 50, 83, 116, 97, 116, 115] nf_v2 n7 := by
    unfold srvKid
    rw [if_neg (by decide)]
    unfold fillN
    simp only
    rw [f7]
  have k8 : srvKid rs ⟨[112, 114, 111, 99, 51], [86, 51, 83, 116, 97, 116, 115], nf_v3⟩ = fillN [86, 51, 83, 116, 97, 116, 115] nf_v3 n8 := by
    unfold srvKid
    rw [if_neg (by decide)]
    unfold fillN
    simp only
    rw [f8]
  have k9 : srvKid rs ⟨[112, 114, 111, 99, 52], [83, 101, 114, 118, 101, 114, 86, 52, 83, 116, 97, 116, 115], [[78, 117, 108, 108], [67, 111, 109, 112, 111, 117, 110, 100]]⟩ = fillN [83, 101, 114, 118, 101, 114, 86, 52, 83, 116, 97, 116, 115] [[78, 117, 108, 108], [67, 111, 109, 112, 111, 117, 110, 100]] n9 := by
    unfold srvKid
    rw [if_neg (by decide)]
    unfold fillN
    simp only
    rw [f9]
  have k10 : srvKid rs ⟨[112, 114, 111, 99, 52, 111, 112, 115], [86, 52, 79, 112, 115], nf_v4Ops⟩ = fillN [86, 52, 79, 112, 115] nf_v4Ops n10 := by
    unfold srvKid
    rw [if_neg (by decide)]
    unfold fillN
    simp only
    rw [f10]
  have hm : nfSrv.map (srvKid rs) = [srvKid rs ⟨[114, 99], [82, 101, 112, 108, 121, 67, 97, 99, 104, 101], [[72, 105, 116, 115], [77, 105, 115, 115, 101, 115], [78, 111, 67, 97, 99, 104, 101]]⟩, srvKid rs ⟨[102, 104], [70, 105, 108, 101, 72, 97, 110, 100, 108, 101, 115], [[83, 116, 97, 108, 101], [84, 111, 116, 97, 108, 76, 111, 111, 107, 117, 112, 115], [65, 110, 111, 110, 76, 111, 111, 107, 117, 112, 115], [68, 105, 114, 78, 111, 67, 97, 99, 104, 101], [78, 111, 68, 105, 114, 78, 111, 67, 97, 99, 104, 101]]⟩, srvKid rs ⟨[105, 111], [73, 110, 112, 117, 116, 79, 117, 116, 112, 117, 116], [[82, 101, 97, 100], [87, 114, 105, 116, 101]]⟩, srvKid rs ⟨[116, 104], [84, 104, 114, 101, 97, 100, 115], [[84, 104, 114, 101, 97, 100, 115], [70, 117, 108, 108, 67, 110, 116]]⟩, srvKid rs ⟨[114, 97], [82, 101, 97, 100, 65, 104, 101, 97, 100, 67, 97, 99, 104, 101], []⟩, srvKid rs ⟨[110, 101, 116], [78, 101, 116, 119, 111, 114, 107], [[78, 101, 116, 67, 111, 117, 110, 116], [85, 68, 80, 67, 111, 117, 110, 116], [84, 67, 80, 67, 111, 117, 110, 116], [84, 67, 80, 67, 111, 110, 110, 101, 99, 116]]⟩, srvKid rs ⟨[114, 112, 99], [83, 101, 114, 118, 101, 114, 82, 80, 67], [[82, 80, 67, 67, 111, 117, 110, 116], [66, 97, 100, 67, 110, 116], [66, 97, 100, 70, 109, 116], [66, 97, 100, 65, 117, 116, 104], [66, 97, 100, 99, 73, 110, 116]]⟩, srvKid rs ⟨[112, 114, 111, 99, 50], [86, 50, 83, 116, 97, 116, 115], nf_v2⟩, srvKid rs ⟨[112, 114, 111, 99, 51], [86, 51, 83, 116, 97, 116, 115], nf_v3⟩, srvKid rs ⟨[112, 114, 111, 99, 52], [83, 101, 114, 118, 101, 114, 86, 52, 83, 116, 97, 116, 115], [[78, 117, 108, 108], [67, 111, 109, 112, 111, 117, 110, 100]]⟩, srvKid rs ⟨[112, 114, 111, 99, 52, 111, 112, 115], [86, 52, 79, 112, 115], nf_v4Ops⟩] := rfl
  rw [k0, k1, k2, k3, k4, k5, k6, k7, k8, k9, k10] at hm
  unfold srvTree
  rw [hm]
  refine autoA_sv (n := 1) ?_ rfl
  exact core3103 E h (srvCs rs) hlen T0 t0 _ _ e0 y0 (u64s_can0 _) T1 t1 _ _ e1 y1 (u64s_can0 _) T2 t2 _ _ e2 y2 (u64s_can0 _) T3 t3 _ _ e3 y3 (u64s_can0 _) T4 t4 _ _ e4 y4 rfl T5 t5 _ _ e5 y5 (u64s_can0 _) T6 t6 _ _ e6 y6 (u64s_can0 _) T7 t7 _ _ e7 y7 (u64s_can0 _) T8 t8 _ _ e8 y8 (u64s_can0 _) T9 t9 _ _ e9 y9 (u64s_can0 _) T10 t10 _ _ e10 y10 (u64s_can0 _) _ y11 x11
def S3102 (F : List SV → Option AV) : Prop := ∀ rs : List RowD, srvOk rs = true → rowsFit3 rs → F [.str [], .ref (srvCs rs), .fn 103 [] []] = some (.sv (srvTree rs))
theorem ev3102 (E : Env) (h : E.code 102 = some c3102) (h03 : Has E 103 S3103) : S3102 (autoF E 102) := by
  obtain ⟨F, hp, hF⟩ := h03
  intro rs hok hf
  have hF1 := hF rs hok hf
  have hl := srvCs_len hok
  have h7 : (srvCs rs).take 107 = srvCs rs := List.take_of_length_le (by omega)
  have h8 := srvCs_can0 rs
  refine autoA_sv (n := 1) ?_ rfl
  unfold evPA
  simp only [h]
  unfold srvTree nodeV at *
  generalize nfSrv.map (srvKid rs) ++ [uNode sWdN ((numsOf rs sWd).getD 0 0)] = K at *
  generalize srvCs rs = cs at *
  simp [c3102, hp, hF1, hl, h7, h8]
def S3101 (F : List SV → Option AV) : Prop := ∀ rs : List RowD, srvOk rs = true → rowsFit3 rs → F [.ref (srvCs rs)] = some (.sv (srvTree rs))
theorem ev3101 (E : Env) (h : E.code 101 = some c3101) (h02 : Has E 102 S3102) : S3101 (autoF E 101) := by
  obtain ⟨F, hp, hF⟩ := h02
  intro rs hok hf
  have hF1 := hF rs hok hf
  refine autoA_sv (n := 1) ?_ rfl
  unfold evPA
  simp only [h]
  unfold srvTree nodeV at *
  generalize nfSrv.map (srvKid rs) ++ [uNode sWdN ((numsOf rs sWd).getD 0 0)] = K at *
  generalize srvCs rs = cs at *
  simp [c3101, hp, hF1]
theorem evF3098 (E : Env) (h : E.code 98 = some c3098) (F : List SV → Option AV) (hp : E.pure 99 = some F) (s : List UInt8) (cs : List SV) (hF : F [.str s] = some (.sv (.tup [.ref cs, .nilI]))) (n : Nat) (js : List Box) : evF E (n + 1) 98 [.ptr 0 0] (.live [.sv (.str s)] :: js) = some (.sv (.tup [.ref cs, .nilI]), .live [.sv (.str s)] :: js) := by
  simp only [evF, h]
  simp [c3098, List.replicate, hp, hF]
theorem evF3100 (E : Env) (h : E.code 100 = some c3100) (hq : E.quiet 175 = true) (h98 : E.code 98 = some c3098) (hp98 : E.pure 98 = none) (F G : List SV → Option AV) (hp : E.pure 99 = some F) (hg : E.pure 101 = some G) (s : List UInt8) (cs K : List SV) (hF : F [.str s] = some (.sv (.tup [.ref cs, .nilI])))
    (hG : G [.ref cs] = some (.sv (.agg [.str [], .int .i64 8, .bool false, .int .i64 0, .int .u64 0, .flt .f64 0, .str [], .sl K]))) (n : Nat) (z : Box) :
    ∃ js, evF E (n + 2) 100 [.clo 98 [] [.ptr 0 0], .sv (.fn 101 [] [])] [.live [.sv (.str s)], z] = some (.sv (.tup [.agg [.str [], .int .i64 8, .bool false, .int .i64 0, .int .u64 0, .flt .f64 0, .str [], .sl K], .int .i64 0]), .live [.sv (.str s)] :: z :: js) := by
  have e98 := evF3098 E h98 F hp s cs hF n
  refine ⟨[.live [.sv (.str []), .sv (.int .i64 8), .sv (.bool false), .sv (.int .i64 0), .sv (.int .u64 0), .sv (.flt .f64 0), .sv (.str []), .sv (.sl K)], .live [.sv (.int .i64 0)]], ?_⟩
  rw [show n + 2 = (n + 1) + 1 from rfl, evF]
  simp only [h]
  simp [c3100, List.replicate, hp98, e98, hg, hG, hq]
def S3036 (F : List SV → Option AV) : Prop := SDoorG srvRd srvOk srvTree F
theorem ev3036 (E : Env) (h : E.code 36 = some c3036) (hq : E.quiet 175 = true) (h98 : E.code 98 = some c3098) (hp98 : E.pure 98 = none) (h100 : E.code 100 = some c3100) (hp100 : E.pure 100 = none) (h99 : Has E 99 S3099) (h101 : Has E 101 S3101) : S3036 (autoF E 36) := by
  obtain ⟨F, hp, hF⟩ := h99
  obtain ⟨G, hg, hG⟩ := h101
  intro s rs hr ho hf hs
  obtain ⟨_, rfl⟩ := hr
  have hF1 := hF rs ho hf hs
  have hG1 := hG rs ho hf
  obtain ⟨js, e⟩ := evF3100 E h100 hq h98 hp98 F G hp hg (nfText rs) (srvCs rs) _ hF1 hG1 1 (.live [.sv (.str []), .sv (.int .i64 0), .sv (.bool false), .sv (.int .i64 0), .sv (.int .u64 0), .sv (.flt .f64 0), .sv (.str []), .sv .nilS])
  rw [show 1 + 2 = 3 from rfl] at e
  refine autoA_sv (n := 3) ?_ rfl
  unfold evPA
  simp only [h]
  unfold srvTree nodeV at *
  generalize nfSrv.map (srvKid rs) ++ [uNode sWdN ((numsOf rs sWd).getD 0 0)] = K at *
  generalize nfText rs = s at *
  simp [c3036, hp100, e]
theorem fillK_node : ∀ (fs : List (List UInt8)) (ns : List Nat), (∀ k ∈ fillK fs ns, IsNode k) ∧ (fillK fs ns).length = fs.length
  | [], ns => by cases ns <;> simp [fillK]
  | f :: fs, [] => by
    obtain ⟨h1, h2⟩ := fillK_node fs []
    unfold fillK
    refine ⟨fun k hk => ?_, by simp [h2]⟩
    rcases List.mem_cons.1 hk with rfl | hk
    · exact .mk _ _ _ _ _ _ _ _ (by simp) (by simp)
    · exact h1 k hk
  | f :: fs, n :: ns => by
    obtain ⟨h1, h2⟩ := fillK_node fs ns
    unfold fillK
    refine ⟨fun k hk => ?_, by simp [h2]⟩
    rcases List.mem_cons.1 hk with rfl | hk
    · exact .mk _ _ _ _ _ _ _ _ (by simp) (by simp)
    · exact h1 k hk
theorem srvKid_node (rs : List RowD) (g : Grp) (hg : g.fields.length < 1000) : IsNode (srvKid rs g) := by
  unfold srvKid
  split
  · refine .mk _ _ _ _ _ _ _ _ (by simp) fun k hk => ?_
    simp only [List.mem_cons, List.not_mem_nil, or_false] at hk
    rcases hk with rfl | rfl | rfl
    · exact .mk _ _ _ _ _ _ _ _ (by simp) (by simp)
    · refine .mk _ _ _ _ _ _ _ _ (by rw [List.length_map, List.length_take]; omega) fun k hk => ?_
      obtain ⟨n, _, rfl⟩ := List.mem_map.1 hk
      exact .mk _ _ _ _ _ _ _ _ (by simp) (by simp)
    · exact .mk _ _ _ _ _ _ _ _ (by simp) (by simp)
  · obtain ⟨h1, h2⟩ := fillK_node g.fields (numsOf rs g.label)
    exact .mk _ _ _ _ _ _ _ _ (by rw [h2]; omega) h1
theorem srvLaw : LawG srvRd srvOk nfText srvTree where
  back := fun rs _ ho => ⟨ho, rfl⟩
  node := fun rs _ _ => by
    have h11 : nfSrv.length = 11 := rfl
    refine .mk _ _ _ _ _ _ _ _ (by rw [List.length_append, List.length_map, h11, List.length_singleton]; decide) fun k hk => ?_
    rcases List.mem_append.1 hk with hk | hk
    · obtain ⟨g, hg, rfl⟩ := List.mem_map.1 hk
      exact srvKid_node rs g (nfSrv_small.2 g hg)
    · rw [List.mem_singleton.1 hk]
      exact .mk _ _ _ _ _ _ _ _ (by simp) (by simp)
def S9nf (F : List SV → Option AV) : Prop := S9g 37 35 36 F
def S13nf (F : List SV → Option AV) : Prop := S9g 37 34 36 F
def S1016nf (F : List SV → Option AV) : Prop := S1016g 34 35 36 F
theorem ev9nf (E : Env) (h : E.code 15 = some c9) (hR : Has E 37 S3037) (hT : Has E 35 S3035) (hD : Has E 36 S3036) (h25 : E.pure 38 = some F25) (h26 : E.pure 39 = some F26) (h27 : E.pure 40 = some F27) : S9nf (autoF E 15) := ev9G srvLaw E h _ _ _ hR hT hD h25 h26 h27
theorem ev13nf (E : Env) (h : E.code 19 = some c13) (hR : Has E 37 S3037) (hP : Has E 34 S3034) (hD : Has E 36 S3036) (h25 : E.pure 38 = some F25) (h26 : E.pure 39 = some F26) (h27 : E.pure 40 = some F27) : S13nf (autoF E 19) := ev13G srvLaw E h _ _ _ hR hP hD h25 h26 h27
theorem ev1016nf (E : Env) (h : E.code 25 = some c1016) (hP : Has E 34 S3034) (hT : Has E 35 S3035) (hD : Has E 36 S3036) (h25 : E.pure 38 = some F25) (h26 : E.pure 39 = some F26) (h27 : E.pure 40 = some F27) : S1016nf (autoF E 25) := ev1016G srvLaw E h _ _ _ hP hT hD h25 h26 h27
theorem ev3014 (E : Env) (h : E.code 14 = some c3014) (hL : Has E 15 S9nf) (s : List UInt8) (n : Nat) : evP E n 14 [.str s] = some (.sv (.bool true)) := by
  obtain ⟨F, hp, hF⟩ := hL
  have hF1 := hF s
  unfold evP
  simp only [h]
  by_cases hs : 2147483647 < s.length
  · have e : (2147483647 : Int) < (s.length : Int) := by omega
    simp [c3014, List.replicate, e]
  · have e : ¬ (2147483647 : Int) < (s.length : Int) := by omega
    simp [c3014, List.replicate, e, hp, hF1]
theorem ev3013 (E : Env) (h : E.code 13 = some c3013) (hL : Has E 19 S13nf) (s : List UInt8) (n : Nat) : evP E n 13 [.str s] = some (.sv (.bool true)) := by
  obtain ⟨F, hp, hF⟩ := hL
  have hF1 := hF s
  unfold evP
  simp only [h]
  by_cases hs : 2147483647 < s.length
  · have e : (2147483647 : Int) < (s.length : Int) := by omega
    simp [c3013, List.replicate, e]
  · have e : ¬ (2147483647 : Int) < (s.length : Int) := by omega
    simp [c3013, List.replicate, e, hp, hF1]
theorem ev3012 (E : Env) (h : E.code 12 = some c3012) (h15 : E.pure 24 = some F1015) (h16 : Has E 25 S1016nf) (l : List RowD) (hn : ∀ r ∈ l, ∀ n ∈ r.N, n < 18446744073709551616) (n : Nat) : evP E n 12 [.sl (rowsSV l)] = some (.sv (.bool true)) := by
  obtain ⟨G, hp, hG⟩ := h16
  unfold evP
  simp only [h]
  have hF := F1015_eq l
  cases hz : zzRows l with
  | false => rw [hz] at hF; simp [c3012, List.replicate, h15, hF]
  | true =>
    rw [hz] at hF
    have hF2 := hG l hz hn
    simp [c3012, List.replicate, h15, hF, hp, hF2]
end Go.Ev

set_option linter.unusedSimpArgs false
set_option linter.unusedVariables false
namespace Go.Ev
open Go.Proofs
variable {P : Program} {E : Env}
theorem ev3099c (E : Env) (h : E.code 99 = some c3099) (h3167 : Has E 167 S3167) (h3168 : Has E 168 S3168) (h3169 : Has E 169 S3169) (h3170 : Has E 170 S3170) (h3171 : Has E 171 S3171) (h3154 : Has E 154 S3154) (h3172 : Has E 172 S3172) (h3156 : Has E 156 S3156) (h3157 : Has E 157 S3157) (h3173 : Has E 173 S3173) (h3174 : Has E 174 S3174) (h53 : Has E 153 S3153) (h127 : E.pure 152 = some F127) (h88 : E.code 117 = some c88) (h90 : E.code 119 = some c90) (hp88 : E.pure 117 = none) (hp90 : E.pure 119 = none) (h87 : E.code 116 = some c87) (h128 : E.code 159 = some c128) (hp87 : E.pure 116 = none) (hp128 : E.pure 159 = none) : S3099 (autoF E 99) :=
  ev3099 E h ⟨h3167, h3168, h3169, h3170, h3171, h3154, h3172, h3156, h3157, h3173, h3174, h53, h127, h88, h90, hp88, hp90⟩ h87 h128 hp87 hp128
theorem ptOf (B : Base P E) {f : Nat} (h : ∀ s n, evP E n f [.str s] = some (.sv (.bool true))) : PureFn P E f F8x := by
  refine PureFn.of B.m B.T B.Q B.P fun vs r hF => ?_
  unfold F8x at hF
  split at hF
  · rename_i s
    simp only [Option.some.injEq] at hF; subst hF
    exact ⟨1, _, h s 1, .inl rfl⟩
  · cases hF
theorem pbOf (B : Base P E) {f : Nat} (h : ∀ l : List RowD, (∀ r ∈ l, ∀ n ∈ r.N, n < 18446744073709551616) → ∀ n, evP E n f [.sl (rowsSV l)] = some (.sv (.bool true))) : PureFn P E f F1003 := by
  refine PureFn.of B.m B.T B.Q B.P fun vs r hF => ?_
  unfold F1003 at hF
  split at hF
  · rename_i l
    obtain ⟨⟨h1, h2⟩, hr⟩ := onlyIf_some hF
    simp only [Option.some.injEq] at hr; subst hr
    refine ⟨1, _, ?_, .inl rfl⟩
    have := h (l.map unrow) h2 1
    rw [← h1] at this
    exact this
  · cases hF
end Go.Ev
