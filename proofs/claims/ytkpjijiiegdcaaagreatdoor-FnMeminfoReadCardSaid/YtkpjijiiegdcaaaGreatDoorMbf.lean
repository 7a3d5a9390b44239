/- Memory: the reference's tree (lines printed by a program of this work). -/
/- Memory: what is read of a text. -/
import Derived.Test.YtkpjijiiegdcaaaGreatDoorMbd
import Derived.Test.YtkpjijiiegdcaaaGreatDoorMbe
import Derived.Test.YtkpjijiiegdcaaaGreatDoorMaq
set_option linter.unusedSimpArgs false
set_option linter.unusedVariables false
namespace Go.Ev
open Go.Proofs

def S1114m (F : List SV → Option AV) : Prop := ∀ nm : List UInt8, F [.str nm] = some (.sv (nodeV nm 0 false 0 0 0 [] []))

theorem ev1114m (E : Env) (h : E.code 33 = some c1114) : S1114m (autoF E 33) := by
  intro nm
  refine autoF_sv (n := 1) ?_ rfl
  unfold evP
  simp only [h]
  simp [c1114, List.replicate, nodeV]

def zND : Box := .live [.sv (.str []), .sv (.int .i64 0), .sv (.bool false), .sv (.int .i64 0), .sv (.int .u64 0), .sv (.flt .f64 0), .sv (.str []), .sv .nilS]
def st4012 (R NM acc accB : List SV) (i : Nat) (bx : List Box) : SA := { nt := 70, tm := [(16, .sv (.int .i64 i)), (15, .sv (.int .i64 55)), (14, .sv (.sl NM)), (5, accA 43 accB), (4, accA 43 acc), (2, .ptr 0 0), (0, .sv (.sl R))], lz := none, bx := zND :: bx, df := [] }

def addB (pg : Bool) (accB : List SV) (x : SV) : List SV := if pg = true then accB else accB ++ [x]

theorem bb1 (n : Nat) (h : n < 1000000) : (n + 1 + 1) * 96 ≤ 140737488355328 := by omega
theorem bb2 (n : Nat) (h : n < 1000000) : n + 1 + 1 ≤ 140737488355328 := by omega

set_option maxRecDepth 100000 in
set_option maxHeartbeats 8000000 in
theorem none4012 {F G H : List SV → Option AV} (E : Env) (cf : CallF) (m : Nat) (h87 : E.pure 32 = some F) (h30 : E.pure 30 = some G) (h14 : E.pure 33 = some H) (R NM acc accB : List SV) (hN : NM.length = 55) (ha : acc.length < 1000000) (hb : accB.length < 1000000) (i : Nat) (hi : i < 55) (nm : List UInt8) (hnm : nm.length < 20) (pg : Bool) (hc : ∀ h : i < NM.length, NM[i]'h = .str nm)
    (eF : F [.sl R, .str nm] = some (.sv (.tup [.agg [.str [], .sl [], .sl []], .bool false]))) (eG : G [.str nm] = some (.sv (.bool pg))) (hH : S1114m H) (bx : List Box) :
    ∃ bx', evCA E cf m b4012_0 (st4012 R NM acc accB i bx) = some (.normal, st4012 R NM (acc ++ [zNode nm]) (addB pg accB (zNode (nm ++ bytesS))) (i + 1) bx') := by
  have hw : IntKind.i64.wrap ((i : Int) + 1) = ((i + 1 : Nat) : Int) := by rw [IntKind.wrap_i64]; omega
  have h2 : (i : Int) < 55 := by omega
  have l1 : i < NM.length := by omega
  have e1 := hH nm
  have e2 := hH (nm ++ bytesS)
  unfold zNode bytesS nodeV at *
  have ln : nm.length + 5 < 4611686018427387904 := by omega
  refine ⟨bx ++ [.live [.sv (.str []), .sv (.sl []), .sv (.sl [])]], ?_⟩
  cases pg with
  | true =>
    cases acc with
    | nil => simp [b4012_0, st4012, addB, zND, h2, hi, l1, hc, h87, eF, h14, e1, h30, eG, hw, accA]
    | cons y ys =>
      simp only [List.length_cons] at ha
      have hy : ys.length < 1000000 := by omega
      simp [b4012_0, st4012, addB, zND, h2, hi, l1, hc, h87, eF, h14, e1, h30, eG, hw, accA, hy, bb1, bb2]
  | false =>
    cases acc with
    | nil =>
      cases accB with
      | nil => simp [b4012_0, st4012, addB, zND, h2, hi, l1, hc, h87, eF, h14, e1, e2, h30, eG, hw, accA, ln]
      | cons z zs =>
        simp only [List.length_cons] at hb
        have hz : zs.length < 1000000 := by omega
        simp [b4012_0, st4012, addB, zND, h2, hi, l1, hc, h87, eF, h14, e1, e2, h30, eG, hw, accA, ln, hz, bb1, bb2]
    | cons y ys =>
      simp only [List.length_cons] at ha
      have hy : ys.length < 1000000 := by omega
      cases accB with
      | nil => simp [b4012_0, st4012, addB, zND, h2, hi, l1, hc, h87, eF, h14, e1, e2, h30, eG, hw, accA, ln, hy, bb1, bb2]
      | cons z zs =>
        simp only [List.length_cons] at hb
        have hz : zs.length < 1000000 := by omega
        simp [b4012_0, st4012, addB, zND, h2, hi, l1, hc, h87, eF, h14, e1, e2, h30, eG, hw, accA, ln, hy, hz, bb1, bb2]

set_option maxRecDepth 100000 in
set_option maxHeartbeats 8000000 in
theorem some4012 {F G H : List SV → Option AV} (E : Env) (cf : CallF) (m : Nat) (h87 : E.pure 32 = some F) (h30 : E.pure 30 = some G) (h35 : E.pure 34 = some H) (R NM acc accB : List SV) (hN : NM.length = 55) (ha : acc.length < 1000000) (hb : accB.length < 1000000) (i : Nat) (hi : i < 55) (nm : List UInt8) (hnm : nm.length < 20) (pg : Bool) (v : Nat) (hv : v < 9007199254740992) (hc : ∀ h : i < NM.length, NM[i]'h = .str nm)
    (eF : F [.sl R, .str nm] = some (.sv (.tup [.agg [.str nm, .sl [.int .u64 (v : Int)], .sl []], .bool true]))) (eG : G [.str nm] = some (.sv (.bool pg))) (hH : S35o H) (bx : List Box) :
    ∃ bx', evCA E cf m b4012_0 (st4012 R NM acc accB i bx) = some (.normal, st4012 R NM (acc ++ [u3Node nm v]) (addB pg accB (u3Node (nm ++ bytesS) (1024 * v))) (i + 1) bx') := by
  have hw : IntKind.i64.wrap ((i : Int) + 1) = ((i + 1 : Nat) : Int) := by rw [IntKind.wrap_i64]; omega
  have hw2 : IntKind.u64.wrap (1024 * (v : Int)) = ((1024 * v : Nat) : Int) := by rw [IntKind.wrap_u64]; omega
  have h2 : (i : Int) < 55 := by omega
  have l1 : i < NM.length := by omega
  have e1 := hH nm (v : Int)
  have e2 := hH (nm ++ bytesS) ((1024 * v : Nat) : Int)
  unfold u3Node bytesS nodeV at *
  have ln : nm.length + 5 < 4611686018427387904 := by omega
  generalize hV : ((1024 * v : Nat) : Int) = V at *
  clear hV
  refine ⟨bx ++ [.live [.sv (.str nm), .sv (.sl [.int .u64 (v : Int)]), .sv (.sl [])]], ?_⟩
  cases pg with
  | true =>
    cases acc with
    | nil => simp [b4012_0, st4012, addB, zND, h2, hi, l1, hc, h87, eF, h35, e1, h30, eG, hw, accA]
    | cons y ys =>
      simp only [List.length_cons] at ha
      have hy : ys.length < 1000000 := by omega
      simp [b4012_0, st4012, addB, zND, h2, hi, l1, hc, h87, eF, h35, e1, h30, eG, hw, accA, hy, bb1, bb2]
  | false =>
    cases acc with
    | nil =>
      cases accB with
      | nil => simp [b4012_0, st4012, addB, zND, h2, hi, l1, hc, h87, eF, h35, e1, e2, h30, eG, hw, hw2, accA, ln]
      | cons z zs =>
        simp only [List.length_cons] at hb
        have hz : zs.length < 1000000 := by omega
        simp [b4012_0, st4012, addB, zND, h2, hi, l1, hc, h87, eF, h35, e1, e2, h30, eG, hw, hw2, accA, ln, hz, bb1, bb2]
    | cons y ys =>
      simp only [List.length_cons] at ha
      have hy : ys.length < 1000000 := by omega
      cases accB with
      | nil => simp [b4012_0, st4012, addB, zND, h2, hi, l1, hc, h87, eF, h35, e1, e2, h30, eG, hw, hw2, accA, ln, hy, bb1, bb2]
      | cons z zs =>
        simp only [List.length_cons] at hb
        have hz : zs.length < 1000000 := by omega
        simp [b4012_0, st4012, addB, zND, h2, hi, l1, hc, h87, eF, h35, e1, e2, h30, eG, hw, hw2, accA, ln, hy, hz, bb1, bb2]

theorem rowOf_mem : ∀ {rs : List RowD} {s : List UInt8} {r : RowD}, rowOf rs s = some r → r ∈ rs ∧ r.name = s
  | [], _, _, h => by cases h
  | q :: rs, s, r, h => by
    unfold rowOf at h
    split at h
    · rename_i e
      obtain rfl := Option.some.inj h
      exact ⟨by simp, e⟩
    · obtain ⟨h1, h2⟩ := rowOf_mem h
      exact ⟨by simp [h1], h2⟩

def kidsB (rs : List RowD) (l : List MemF) : List SV := (l.filter fun f => !f.pg).map (memKidB rs)

theorem step4012 (E : Env) (cf : CallF) (m : Nat) (h87 : Has E 32 S3087) (h30 : Has E 30 S4030) (h14 : Has E 33 S1114m) (h35 : Has E 34 S35o) (rs : List RowD) (hrl : rs.length < 100000000) (ho : ∀ r ∈ rs, memOk1 r = true) (acc accB : List SV) (ha : acc.length < 1000000) (hb : accB.length < 1000000) (i : Nat) (f : MemF) (hf : memTab[i]? = some f) (bx : List Box) :
    ∃ bx', evCA E cf m b4012_0 (st4012 (rowsSV rs) memNm acc accB i bx) = some (.normal, st4012 (rowsSV rs) memNm (acc ++ [memKid rs f]) (accB ++ kidsB rs [f]) (i + 1) bx') := by
  obtain ⟨F, pF, sF⟩ := h87
  obtain ⟨G, pG, sG⟩ := h30
  obtain ⟨H, pH, sH⟩ := h14
  obtain ⟨U, pU, sU⟩ := h35
  have hm := List.mem_of_getElem? hf
  have hi : i < 55 := (List.getElem?_eq_some_iff.1 hf).1
  obtain ⟨⟨_, l20⟩, _⟩ := memTab_words f hm
  have eF := sF rs f.name hrl
  have eG := sG f.name
  rw [memPg_of f hm] at eG
  have hkb : addB f.pg accB (memKidB rs f) = accB ++ kidsB rs [f] := by
    unfold addB kidsB
    cases hpg : f.pg <;> simp [List.filter, hpg]
  cases hr : rowOf rs f.name with
  | none =>
    rw [hr] at eF
    obtain ⟨bx', he⟩ := none4012 E cf m pF pG pH (rowsSV rs) memNm acc accB memNm_len ha hb i hi f.name l20 f.pg (memNm_get hf) eF eG sH bx
    refine ⟨bx', ?_⟩
    rw [he, ← hkb]
    simp [memKid, memKidB, numOf, hr]
  | some r =>
    rw [hr] at eF
    obtain ⟨hmem, hnm⟩ := rowOf_mem hr
    obtain ⟨g, v, hg, rfl, hv⟩ := memOk1_spec (ho r hmem)
    simp only at hnm
    simp only [rCell, RowD.sv, hnm, Option.isSome_some, u64s, strs, List.map_cons, List.map_nil] at eF
    obtain ⟨bx', he⟩ := some4012 E cf m pF pG pU (rowsSV rs) memNm acc accB memNm_len ha hb i hi f.name l20 f.pg v hv (memNm_get hf) eF eG sU bx
    refine ⟨bx', ?_⟩
    rw [he, ← hkb]
    simp [memKid, memKidB, numOf, hr]

theorem loop4012 (E : Env) (cf : CallF) (m : Nat) (h87 : Has E 32 S3087) (h30 : Has E 30 S4030) (h14 : Has E 33 S1114m) (h35 : Has E 34 S35o) (rs : List RowD) (hrl : rs.length < 100000000) (ho : ∀ r ∈ rs, memOk1 r = true) :
    ∀ (l pre : List MemF) (acc accB : List SV) (i k : Nat) (bx : List Box), memTab = pre ++ l → i = pre.length → acc.length ≤ i → accB.length ≤ i → l.length < k →
      ∃ bx', roundsA (evCA E cf m b4012_0) k (st4012 (rowsSV rs) memNm acc accB i bx) = some (.exit 0, { nt := 70, tm := [(5, accA 43 (accB ++ kidsB rs l)), (4, accA 43 (acc ++ l.map (memKid rs))), (2, .ptr 0 0)], lz := none, bx := zND :: bx', df := [] }) := by
  intro l
  induction l with
  | nil =>
    intro pre acc accB i k bx hsp hi _ _ hk
    obtain ⟨k, rfl⟩ : ∃ k', k = k' + 1 := ⟨k - 1, by omega⟩
    have h16 : i = 55 := by rw [hi]; have := congrArg List.length hsp; simpa [memTab_len] using this.symm
    refine ⟨bx, roundsA_out ?_ (by simp)⟩
    subst h16
    have e : kidsB rs [] = [] := rfl
    rw [e]
    simp only [List.map_nil, List.append_nil]
    generalize rowsSV rs = R at *
    generalize memNm = NM at *
    cases acc <;> cases accB <;> simp [b4012_0, st4012, accA]
  | cons f l ih =>
    intro pre acc accB i k bx hsp hi ha hb hk
    obtain ⟨k, rfl⟩ : ∃ k', k = k' + 1 := ⟨k - 1, by omega⟩
    have hf : memTab[i]? = some f := by rw [hsp, hi]; simp
    have hl : i < 55 := (List.getElem?_eq_some_iff.1 hf).1
    have hkl : (kidsB rs [f]).length ≤ 1 := by unfold kidsB; rw [List.length_map]; exact List.length_filter_le _ _
    obtain ⟨b1, hst⟩ := step4012 E cf m h87 h30 h14 h35 rs hrl ho acc accB (by omega) (by omega) i f hf bx
    obtain ⟨bx', he⟩ := ih (pre ++ [f]) (acc ++ [memKid rs f]) (accB ++ kidsB rs [f]) (i + 1) k b1 (by rw [hsp]; simp) (by simp [hi]) (by simp; omega) (by rw [List.length_append]; omega) (by simp at hk; omega)
    refine ⟨bx', ?_⟩
    rw [roundsA_step hst, he]
    have e : kidsB rs (f :: l) = kidsB rs [f] ++ kidsB rs l := by
      unfold kidsB
      rw [← List.map_append, ← List.filter_append]
      rfl
    rw [e]
    simp only [List.map_cons, List.append_assoc, List.cons_append, List.nil_append]

def S4012 (F : List SV → Option AV) : Prop := STreeG memOk memTree F

theorem memTabB_len : memTabB.length = 51 := rfl

set_option maxHeartbeats 8000000 in
theorem ev4012 (E : Env) (h : E.code 12 = some c4012) (h25 : Has E 25 S4025) (h31 : Has E 31 S4031) (h87 : Has E 32 S3087) (h30 : Has E 30 S4030) (h14 : Has E 33 S1114m) (h35 : Has E 34 S35o) (h33 : E.pure 35 = some F33) : S4012 (autoF E 12) := by
  obtain ⟨F, hp, hF⟩ := h25
  obtain ⟨G, pG, sG⟩ := h31
  unfold S4031 at sG
  intro rs hrl hok
  have hF1 := hF rs hrl
  rw [hok] at hF1
  have hv' := hok
  unfold memOk at hv'
  rw [Bool.and_eq_true, List.all_eq_true] at hv'
  obtain ⟨bx', he⟩ := loop4012 E (evF E 100) 100 h87 h30 h14 h35 rs hrl.1 hv'.1 memTab [] [] [] 0 100 [] rfl rfl (by simp) (by simp) (by rw [memTab_len]; omega)
  refine autoA_sv (n := 100) ?_ rfl
  unfold evPA
  simp only [h]
  unfold memTree
  have hkB : kidsB rs memTab = memTabB.map (memKidB rs) := rfl
  rw [hkB] at he
  have l1 : (memTab.map (memKid rs)).length = 55 := by rw [List.length_map, memTab_len]
  have l2 : (memTabB.map (memKidB rs)).length = 51 := by rw [List.length_map, memTabB_len]
  have hu2 : ∀ x ∈ memTabB.map (memKidB rs), x.cells.length = 8 := by
    intro x hx
    obtain ⟨f, _, rfl⟩ := List.mem_map.1 hx
    unfold memKidB
    split <;> rfl
  have hNL := memNm_len
  simp only [st4012, zND, List.nil_append, Int.ofNat_zero, Int.natCast_zero] at he
  generalize memTab.map (memKid rs) = K1 at *
  generalize memTabB.map (memKidB rs) = K2 at *
  generalize memNm = NM at *
  generalize rowsSV rs = R at *
  match K1, l1, K2, l2 with
  | x :: xs, l1, y :: ys, l2 =>
    have hy : (y.cells.length = 8) = True := eq_true (hu2 y (by simp))
    have hys : (∀ x : SV, x ∈ ys → x.cells.length = 8) = True := eq_true (fun x hx => hu2 x (by simp [hx]))
    simp only [SV.cells] at hy hys
    simp only [List.length_cons] at l1 l2
    have b1 : (xs.length + 1 + (ys.length + 1)) * 96 ≤ 140737488355328 := by omega
    have b2 : xs.length + 1 + (ys.length + 1) ≤ 140737488355328 := by omega
    have hF33 : F33 [.str [], .sl (x :: xs ++ y :: ys)] = some (.sv (.agg [.str [], .int .i64 8, .bool false, .int .i64 0, .int .u64 0, .flt .f64 0, .str [], .sl (x :: xs ++ y :: ys)])) := rfl
    simp only [accA, List.cons_append] at he hF33
    unfold nodeV
    simp [c4012, hp, hF1, pG, sG, hNL, he, b1, b2, hy, hys, h33, hF33]

end Go.Ev

set_option linter.unusedSimpArgs false
set_option linter.unusedVariables false
namespace Go.Ev
open Go.Proofs

def stI4015 (s : List UInt8) (X NM : List SV) (f0 : List UInt8) (FS ns : List SV) (b : Bool) (acc : List SV) (i j : Nat) : SA := { nt := 71, tm := [(45, .sv (.int .i64 j)), (44, .sv (.int .i64 55)), (43, .sv (.sl NM)), (17, .sv (.int .i64 i)), (16, .sv (.int .i64 X.length)), (15, .sv (.sl X)), (10, .sv (.sl ns)), (9, .sv (.sl (.str f0 :: FS))), (6, .sv (.bool b)), (5, accA 35 acc), (0, .sv (.str s))], lz := none, bx := [], df := [] }
def st4015 (s : List UInt8) (X : List SV) (b : Bool) (acc : List SV) (i : Nat) : SA := { nt := 71, tm := [(17, .sv (.int .i64 i)), (16, .sv (.int .i64 X.length)), (15, .sv (.sl X)), (6, .sv (.bool b)), (5, accA 35 acc), (0, .sv (.str s))], lz := none, bx := [], df := [] }
def bad4015 : SA := { nt := 71, tm := [(4, .sv (.int .i64 2)), (3, .sv (.bool false)), (2, .sv .nilS)], lz := none, bx := [], df := [] }

def endD (f : List UInt8) : Bool := decide (1 ≤ f.length) && (f.drop (f.length - 1) == [58])

theorem cc1 (n : Nat) (h : n < 100000000) : (n + 1 + 1) * 64 ≤ 140737488355328 := by omega
theorem cc2 (n : Nat) (h : n < 100000000) : n + 1 + 1 ≤ 140737488355328 := by omega

set_option maxRecDepth 100000 in
set_option maxHeartbeats 4000000 in
theorem stepI4015 {G : List SV → Option AV} (E : Env) (cf : CallF) (m : Nat) (hp : E.pure 27 = some G) (s : List UInt8) (X NM : List SV) (hN : NM.length = 55) (f0 : List UInt8) (FS ns : List SV) (b : Bool) (acc : List SV) (ha : acc.length < 100000000) (i j : Nat) (hj : j < 55) (nm lab : List UInt8) (hlab : lab.length < 20) (hc : ∀ h : j < NM.length, NM[j]'h = .str nm) (eG : G [.str nm] = some (.sv (.str lab))) :
    evCA E cf m b4015_0 (stI4015 s X NM f0 FS ns b acc i j) = some (.normal, stI4015 s X NM f0 FS ns b (if lab ++ [58] = f0 then acc ++ [.agg [.str nm, .sl ns, .sl []]] else acc) i (j + 1)) := by
  have hw : IntKind.i64.wrap ((j : Int) + 1) = ((j + 1 : Nat) : Int) := by rw [IntKind.wrap_i64]; omega
  have h2 : (j : Int) < 55 := by omega
  have l1 : j < NM.length := by omega
  have y0 : binSV .add (.str lab) (.str [58]) = some (.str (lab ++ [58])) := addM (by simp; omega)
  have y1 : binSV .lss (.int .i64 (j : Int)) (.int .i64 55) = some (.bool true) := by simp [binSV, h2]
  have y2 : binSV .add (.int .i64 (j : Int)) (.int .i64 1) = some (.int .i64 ((j + 1 : Nat) : Int)) := by simp [binSV, hw]
  generalize lab ++ [58] = lc at *
  by_cases h : lc = f0
  · have y3 : binSV .eql (.str lc) (.str f0) = some (.bool true) := by simp [binSV, h]
    rw [if_pos h]
    clear h
    cases acc with
    | nil => simp [-binSV, b4015_0, stI4015, y1, l1, hc, hp, eG, y0, y3, y2, accA]
    | cons z zs =>
      simp only [List.length_cons] at ha
      have hz : zs.length < 100000000 := by omega
      simp [-binSV, b4015_0, stI4015, y1, l1, hc, hp, eG, y0, y3, y2, accA, hz, cc1, cc2]
  · have y3 : binSV .eql (.str lc) (.str f0) = some (.bool false) := by simp [binSV, h]
    rw [if_neg h]
    clear h
    cases acc with
    | nil => simp [-binSV, b4015_0, stI4015, y1, l1, hc, hp, eG, y0, y3, y2, accA]
    | cons z zs => simp [-binSV, b4015_0, stI4015, y1, l1, hc, hp, eG, y0, y3, y2, accA]

def memRow (N : List Nat) (r : RowD) : Prop := ∃ f ∈ memTab, r = ⟨f.name, N, []⟩

theorem loopI4015 (E : Env) (cf : CallF) (m : Nat) (h27 : Has E 27 S4027) (s : List UInt8) (X : List SV) (f0 : List UInt8) (FS : List SV) (N : List Nat) (b : Bool) (i : Nat) :
    ∀ (l pre : List MemF) (acc : List SV) (j k : Nat), memTab = pre ++ l → j = pre.length → acc.length + l.length < 100000000 → l.length < k →
      ∃ rs : List RowD, rs.length ≤ l.length ∧ (∀ r ∈ rs, memRow N r) ∧ roundsA (evCA E cf m b4015_0) k (stI4015 s X memNm f0 FS (u64s N) b acc i j) = some (.exit 2, st4015 s X b (acc ++ rowsSV rs) i) := by
  obtain ⟨G, hp, hG⟩ := h27
  intro l
  induction l with
  | nil =>
    intro pre acc j k hsp hj _ hk
    obtain ⟨k, rfl⟩ : ∃ k', k = k' + 1 := ⟨k - 1, by omega⟩
    have h16 : j = 55 := by rw [hj]; have := congrArg List.length hsp; simpa [memTab_len] using this.symm
    refine ⟨[], by simp, by simp, roundsA_out ?_ (by simp)⟩
    subst h16
    have e : rowsSV [] = [] := rfl
    rw [e, List.append_nil]
    generalize memNm = NM at *
    generalize u64s N = U at *
    cases acc <;> simp [b4015_0, stI4015, st4015, accA]
  | cons f l ih =>
    intro pre acc j k hsp hj ha hk
    obtain ⟨k, rfl⟩ : ∃ k', k = k' + 1 := ⟨k - 1, by omega⟩
    have hf : memTab[j]? = some f := by rw [hsp, hj]; simp
    have hm := List.mem_of_getElem? hf
    have hl : j < 55 := (List.getElem?_eq_some_iff.1 hf).1
    obtain ⟨_, _, l20, _⟩ := memTab_words f hm
    simp only [List.length_cons] at ha hk
    have hst := stepI4015 E cf m hp s X memNm memNm_len f0 FS (u64s N) b acc (by omega) i j hl f.name f.label l20 (memNm_get hf) (hG f hm)
    by_cases h : f.label ++ [58] = f0
    · rw [if_pos h] at hst
      obtain ⟨rs, h1, h2, h3⟩ := ih (pre ++ [f]) (acc ++ [.agg [.str f.name, .sl (u64s N), .sl []]]) (j + 1) k (by rw [hsp]; simp) (by simp [hj]) (by simp; omega) (by omega)
      refine ⟨⟨f.name, N, []⟩ :: rs, by simp; omega, ?_, ?_⟩
      · intro r hr
        rcases List.mem_cons.1 hr with rfl | hr
        · exact ⟨f, hm, rfl⟩
        · exact h2 r hr
      · rw [roundsA_step hst, h3]
        simp [rowsSV, RowD.sv, strs]
    · rw [if_neg h] at hst
      obtain ⟨rs, h1, h2, h3⟩ := ih (pre ++ [f]) acc (j + 1) k (by rw [hsp]; simp) (by simp [hj]) (by omega) (by omega)
      exact ⟨rs, by simp; omega, h2, by rw [roundsA_step hst, h3]⟩

theorem dec1 (f : List UInt8) (hf : f.length < 9223372036854775807) : ∃ N b, F77 [.sl [.str f]] = some (.sv (.tup [.sl (u64s N), .bool b])) ∧ N.length ≤ 1 ∧ ∀ n ∈ N, n < 18446744073709551616 := by
  have h := F77_eq [f] (by simp) (fun s hs => by rw [List.mem_singleton.1 hs]; exact hf)
  cases hv : decsV [f] with
  | none =>
    rw [hv] at h
    exact ⟨[], false, h, by simp, by simp⟩
  | some ms =>
    rw [hv] at h
    obtain ⟨h1, h2⟩ := decsV_fit hv
    exact ⟨ms, true, h, by simp [h1], h2⟩

set_option maxRecDepth 100000 in
set_option maxHeartbeats 8000000 in
theorem step4015 (E : Env) (cf : CallF) (m : Nat) (hm : 55 < m) (h27 : Has E 27 S4027) (h31 : Has E 31 S4031) (h52 : E.pure 42 = some F52) (h76 : E.pure 43 = some F76) (h77 : E.pure 44 = some F77) (s : List UInt8) (X : List SV) (hX : X.length < 1000000) (c : List UInt8) (hcl : c.length < 1000000) (b : Bool) (acc : List SV) (ha : acc.length + 55 < 100000000) (i : Nat) (hi : i < X.length) (hc : ∀ h : i < X.length, X[i]'h = .str c) :
    evCA E cf m b4015_1 (st4015 s X b acc i) = some (.ret, bad4015) ∨ ∃ rs b', rs.length ≤ 55 ∧ (∀ r ∈ rs, r.fits3) ∧ evCA E cf m b4015_1 (st4015 s X b acc i) = some (.normal, st4015 s X b' (acc ++ rowsSV rs) (i + 1)) := by
  have hF := F52_eq c (by omega)
  obtain ⟨_, hsh1, hsh2⟩ := fieldsV_shape c
  have hw : IntKind.i64.wrap ((i : Int) + 1) = ((i + 1 : Nat) : Int) := by rw [IntKind.wrap_i64]; omega
  have hi2 : (i : Int) < (X.length : Int) := by omega
  match hfl : fieldsL c with
  | [] =>
    rw [hfl] at hF
    simp only [strs, List.map_nil] at hF
    refine .inl ?_
    unfold st4015 bad4015
    cases acc <;> simp [b4015_1, hi, hc, h52, hF, accA]
  | [f] =>
    rw [hfl] at hF
    simp only [strs, List.map_cons, List.map_nil] at hF
    refine .inl ?_
    unfold st4015 bad4015
    cases acc <;> simp [b4015_1, hi, hc, h52, hF, accA]
  | f :: g :: l =>
    rw [hfl] at hF hsh2
    have hf2 := hsh2 f (by simp)
    have hg2 := hsh2 g (by simp)
    simp only [strs, List.map_cons] at hF
    have hE : F76 [.str f, .str [58]] = some (.sv (.bool (endD f))) := onlyIf_pos (by omega)
    have n2 : ∀ T : List SV, ¬ ((T.length : Int) + 1 + 1 < 2) := fun T => by omega
    have p0 : ∀ T : List SV, (0 : Int) < (T.length : Int) + 1 + 1 := fun T => by omega
    have p1 : ∀ T : List SV, (1 : Int) < (T.length : Int) + 1 + 1 := fun T => by omega
    have p2 : ∀ T : List SV, (2 : Int) ≤ (T.length : Int) + 1 + 1 := fun T => by omega
    have p3 : ∀ T : List SV, 2 ≤ T.length + 1 + 1 := fun T => by omega
    have p4 : ∀ T : List SV, 1 < T.length + 1 + 1 := fun T => by omega
    cases hec : endD f with
    | false =>
      rw [hec] at hE
      refine .inl ?_
      unfold st4015 bad4015
      generalize List.map SV.str l = T at *
      cases acc <;> simp [b4015_1, hi, hc, h52, hF, h76, hE, n2, p0, p1, p2, p3, p4, accA]
    | true =>
      rw [hec] at hE
      obtain ⟨N, d, e77, hN1, hN2⟩ := dec1 g (by omega)
      right
      obtain ⟨F, pF, sF⟩ := h31
      unfold S4031 at sF
      obtain ⟨rs, h1, h2, h3⟩ := loopI4015 E cf m h27 s X f (.str g :: strs l) N (b && d) i memTab [] acc 0 m rfl rfl (by rw [memTab_len]; omega) (by rw [memTab_len]; omega)
      refine ⟨rs, b && d, by rw [memTab_len] at h1; exact h1, ?_, ?_⟩
      · intro r hr
        obtain ⟨q, hq, rfl⟩ := h2 r hr
        obtain ⟨⟨_, l20⟩, _⟩ := memTab_words q hq
        exact ⟨by simp; omega, by simp; omega, hN2, by simp, by simp⟩
      · have hNL := memNm_len
        unfold stI4015 at h3
        unfold st4015 at *
        simp only [Int.ofNat_zero, Int.natCast_zero, strs] at h3
        have hu : (∀ x : SV, x ∈ List.map SV.str l → x.cells.length = 1) = True := eq_true (fun x hx => by
          obtain ⟨y, _, rfl⟩ := List.mem_map.1 hx
          rfl)
        simp only [SV.cells] at hu
        generalize acc ++ rowsSV rs = acc2 at *
        generalize memNm = NM at *
        generalize u64s N = U at *
        generalize List.map SV.str l = T at *
        clear h1 h2 hN1 hN2 hfl hsh1 hsh2
        cases b with
        | false =>
          simp only [Bool.false_and] at h3 ⊢
          cases acc <;> cases acc2 <;> simp only [accA] at h3 ⊢ <;> simp [b4015_1, hi, hc, h52, hF, h76, hE, n2, p0, p1, p2, p3, p4, hu, h77, e77, pF, sF, hNL, h3, hw]
        | true =>
          simp only [Bool.true_and] at h3 ⊢
          cases acc <;> cases acc2 <;> simp only [accA] at h3 ⊢ <;> simp [b4015_1, hi, hc, h52, hF, h76, hE, n2, p0, p1, p2, p3, p4, hu, h77, e77, pF, sF, hNL, h3, hw]

theorem loop4015 (E : Env) (cf : CallF) (m : Nat) (hm : 55 < m) (h27 : Has E 27 S4027) (h31 : Has E 31 S4031) (h52 : E.pure 42 = some F52) (h76 : E.pure 43 = some F76) (h77 : E.pure 44 = some F77) (s : List UInt8) (X : List SV) (hX : X.length < 1000000) :
    ∀ (rest : List (List UInt8)) (pre : List SV) (b : Bool) (pr : List RowD) (i k : Nat), X = pre ++ strs rest → i = pre.length → (∀ x ∈ rest, x.length < 1000000) → (∀ r ∈ pr, r.fits3) → pr.length ≤ 55 * i → rest.length < k →
      roundsA (evCA E cf m b4015_1) k (st4015 s X b (rowsSV pr) i) = some (.ret, bad4015) ∨ ∃ rs b', rs.length ≤ 55 * X.length ∧ (∀ r ∈ rs, r.fits3) ∧ roundsA (evCA E cf m b4015_1) k (st4015 s X b (rowsSV pr) i) = some (.exit 0, { nt := 71, tm := [(6, .sv (.bool b')), (5, accA 35 (rowsSV rs)), (0, .sv (.str s))], lz := none, bx := [], df := [] }) := by
  intro rest
  induction rest with
  | nil =>
    intro pre b pr i k hsp hi _ hpr hpl hk
    obtain ⟨k, rfl⟩ : ∃ k', k = k' + 1 := ⟨k - 1, by omega⟩
    have hlt : ¬ (i < X.length) := by rw [hsp, hi]; simp [strs]
    have hil : i = X.length := by rw [hsp, hi]; simp [strs]
    refine .inr ⟨pr, b, by rw [← hil]; exact hpl, hpr, roundsA_out ?_ (by simp)⟩
    unfold st4015
    generalize rowsSV pr = R at *
    cases R <;> simp [b4015_1, hlt, accA]
  | cons c rest ih =>
    intro pre b pr i k hsp hi hr hpr hpl hk
    obtain ⟨k, rfl⟩ : ∃ k', k = k' + 1 := ⟨k - 1, by omega⟩
    have hlt : i < X.length := by rw [hsp, hi]; simp [strs]
    have hc : ∀ h : i < X.length, X[i]'h = .str c := by subst hi; subst hsp; simp [strs]
    have hrl : (rowsSV pr).length = pr.length := by simp [rowsSV]
    rcases step4015 E cf m hm h27 h31 h52 h76 h77 s X hX c (hr c (by simp)) b (rowsSV pr) (by omega) i hlt hc with h | ⟨rs, b', h1, h2, h3⟩
    · exact .inl (roundsA_out h (by simp))
    · rw [show rowsSV pr ++ rowsSV rs = rowsSV (pr ++ rs) from by simp [rowsSV]] at h3
      rw [roundsA_step h3]
      exact ih (pre ++ [.str c]) b' (pr ++ rs) (i + 1) k (by rw [hsp]; simp [strs]) (by simp [hi]) (fun x hx => hr x (by simp [hx])) (fun r h => by rcases List.mem_append.1 h with h | h; exact hpr r h; exact h2 r h) (by rw [List.length_append]; omega) (by simp at hk; omega)

theorem memText_len : ∀ {rs : List RowD}, (∀ r ∈ rs, memOk1 r = true) → (memText rs).length ≤ rs.length * 100
  | [], _ => by simp [memText]
  | r :: rs, h => by
    obtain ⟨f, n, hf, rfl, hn⟩ := memOk1_spec (h r (by simp))
    have h1 := memBody_len hf hn
    have h2 := memText_len (rs := rs) (fun q hq => h q (by simp [hq]))
    unfold memText at h2 ⊢
    simp only [List.map_cons, List.flatten_cons, List.length_append, List.length_cons] at h1 h2 ⊢
    omega

def S31m (F : List SV → Option AV) : Prop := SMeanB 11 memOk memText F
theorem ev31m (E : Env) (h : E.code 45 = some c31) (h78 : E.pure 174 = some F78) (h79 : E.pure 175 = some F79) (h80 : E.pure 176 = some F80) (h11 : Has E 11 S4011) : S31m (autoF E 45) := mean31b E h h78 h79 h80 _ h11

def S4015 (F : List SV → Option AV) : Prop := SReadG memRd memOk F

set_option maxRecDepth 100000 in
set_option maxHeartbeats 4000000 in
theorem ev4015 (E : Env) (h : E.code 15 = some c4015) (h28 : E.pure 41 = some F28) (h27 : Has E 27 S4027) (h31 : Has E 31 S4031) (h52 : E.pure 42 = some F52) (h76 : E.pure 43 = some F76) (h77 : E.pure 44 = some F77) (hM : Has E 45 S31m) : S4015 (autoF E 15) := by
  obtain ⟨M, pM, sM⟩ := hM
  intro s hs
  have e28 := F28_eq s (by omega)
  obtain ⟨_, k1, k2⟩ := linesV_shape s
  have hXl : (strs (linesL s)).length = (linesL s).length := strs_length _
  have hl := loop4015 E (evF E 50100) 50100 (by omega) h27 h31 h52 h76 h77 s (strs (linesL s)) (by omega) (linesL s) [] true [] 0 50100 rfl rfl (fun x hx => by have := k2 x hx; omega) (by simp) (by simp) (by omega)
  unfold st4015 at hl
  rw [show accA 35 (rowsSV []) = AV.sv .nilS from rfl] at hl
  simp only [Int.ofNat_zero, Int.natCast_zero] at hl
  rcases hl with hl | ⟨rs, b, hrl, hrf, hl⟩
  · right
    refine ⟨[], false, autoA_sv (n := 50100) ?_ rfl⟩
    unfold evPA
    simp only [h]
    unfold bad4015 at hl
    generalize strs (linesL s) = LL at *
    simp [c4015, h28, e28, hl]
  · have hfit : rowsFit3 rs := ⟨by omega, hrf⟩
    obtain ⟨r, eM, hr⟩ := sM s rs b (by omega) hfit (fun ho => by
      unfold memOk at ho
      rw [Bool.and_eq_true, List.all_eq_true] at ho
      have := memText_len ho.1
      omega)
    rcases hr with ⟨rfl, ho, hpl, hlo⟩ | rfl
    · left
      refine ⟨rs, ⟨hpl, hlo⟩, hfit, ho, autoA_sv (n := 50100) ?_ rfl⟩
      unfold evPA
      simp only [h]
      generalize strs (linesL s) = LL at *
      generalize rowsSV rs = R at *
      cases R <;> simp only [accA] at hl <;> simp [c4015, h28, e28, hl, pM, eM]
    · right
      refine ⟨[], false, autoA_sv (n := 50100) ?_ rfl⟩
      unfold evPA
      simp only [h]
      generalize strs (linesL s) = LL at *
      generalize rowsSV rs = R at *
      cases R <;> simp only [accA] at hl <;> simp [c4015, h28, e28, hl, pM, eM]

end Go.Ev
