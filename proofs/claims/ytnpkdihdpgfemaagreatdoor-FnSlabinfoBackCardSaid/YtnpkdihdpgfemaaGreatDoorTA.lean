/- Slabs: what is written. -/
/- Slabs: what is written, whole; the tree. -/
/- Slabs: the tree. -/
import Derived.Test.YtnpkdihdpgfemaaGreatDoorXC
import Derived.Test.YtnpkdihdpgfemaaGreatDoorCodesB
import Derived.Test.YtnpkdihdpgfemaaGreatDoorEvE
set_option linter.unusedSimpArgs false
set_option linter.unusedVariables false
namespace Go.Ev
open Go.Proofs

def slHead1 : List UInt8 := [115, 108, 97, 98, 105, 110, 102, 111, 32, 45, 32, 118, 101, 114, 115, 105, 111, 110, 58, 32, 50, 46, 49]
def slHead2 : List UInt8 := [35, 32, 110, 97, 109, 101, 32, 32, 32, 32, 32, 32, 32, 32, 32, 32, 32, 32, 60, 97, 99, 116, 105, 118, 101, 95, 111, 98, 106, 115, 62, 32, 60, 110, 117, 109, 95, 111, 98, 106, 115, 62, 32, 60, 111, 98, 106, 115, 105, 122, 101, 62, 32, 60, 111, 98, 106, 112, 101, 114, 115, 108, 97, 98, 62, 32, 60, 112, 97, 103, 101, 115, 112, 101, 114, 115, 108, 97, 98, 62, 32, 58, 32, 116, 117, 110, 97, 98, 108, 101, 115, 32, 60, 108, 105, 109, 105, 116, 62, 32, 60, 98, 97, 116, 99, 104, 99, 111, 117, 110, 116, 62, 32, 60, 115, 104, 97, 114, 101, 100, 102, 97, 99, 116, 111, 114, 62, 32, 58, 32, 115, 108, 97, 98, 100, 97, 116, 97, 32, 60, 97, 99, 116, 105, 118, 101, 95, 115, 108, 97, 98, 115, 62, 32, 60, 110, 117, 109, 95, 115, 108, 97, 98, 115, 62, 32, 60, 115, 104, 97, 114, 101, 100, 97, 118, 97, 105, 108, 62]
def slHead : List UInt8 := slHead1 ++ 10 :: (slHead2 ++ [10])
def slabB : List UInt8 := [115, 108, 97, 98, 105, 110, 102, 111]
def slTun : List UInt8 := [32, 58, 32, 116, 117, 110, 97, 98, 108, 101, 115, 32]
def slSld : List UInt8 := [32, 58, 32, 115, 108, 97, 98, 100, 97, 116, 97, 32]

/-- Is the row a slab? -/
def slOk (r : RowD) : Bool := isWord r.name && !(r.name.headD 0 == 35) && !(decide (8 ≤ r.name.length) && (r.name.take 8 == slabB)) && (decide (r.N.length = 11) && decide (r.S.length = 0)) && r.N.all (fun n => decide (n < 4611686018427387904))

def slA (N : List Nat) : List UInt8 := joinS [32] (N.map decS)

def slBody (r : RowD) : List UInt8 := leftS r.name 17 ++ ([32] ++ (slA (r.N.take 5) ++ (slTun ++ (slA ((r.N.take 8).drop 5) ++ (slSld ++ slA (r.N.drop 8))))))

def slText (rs : List RowD) : List UInt8 := slHead ++ (rs.map fun r => slBody r ++ [10]).flatten

structure SlR (r : RowD) (c : UInt8) (t : List UInt8) (n0 n1 n2 n3 n4 n5 n6 n7 n8 n9 n10 : Nat) : Prop where
  hn : r.name = c :: t
  hN : r.N = [n0, n1, n2, n3, n4, n5, n6, n7, n8, n9, n10]
  hS : r.S = []
  hw : isWord (c :: t) = true
  hc : c.toNat ≠ 35
  hb : (decide (8 ≤ (c :: t).length) && ((c :: t).take 8 == slabB)) = false
  hs : ∀ n ∈ [n0, n1, n2, n3, n4, n5, n6, n7, n8, n9, n10], n < 4611686018427387904

theorem slOk_spec {r : RowD} (h : slOk r = true) : ∃ c t n0 n1 n2 n3 n4 n5 n6 n7 n8 n9 n10, SlR r c t n0 n1 n2 n3 n4 n5 n6 n7 n8 n9 n10 := by
  obtain ⟨nm, N, S⟩ := r
  unfold slOk at h
  simp only [Bool.and_eq_true, Bool.not_eq_true', decide_eq_true_eq] at h
  obtain ⟨⟨⟨⟨h1, h2⟩, h3⟩, h4, h5⟩, h6⟩ := h
  match nm, N, S, h4, h5 with
  | c :: t, [n0, n1, n2, n3, n4, n5, n6, n7, n8, n9, n10], [], _, _ =>
    refine ⟨c, t, n0, n1, n2, n3, n4, n5, n6, n7, n8, n9, n10, rfl, rfl, rfl, h1, ?_, h3, fun n hn => by simpa using List.all_eq_true.1 h6 n hn⟩
    intro hc
    simp only [List.headD_cons, beq_eq_false_iff_ne, ne_eq] at h2
    exact h2 (UInt8.toNat_inj.1 (by rw [hc]; rfl))
  | [], [n0, n1, n2, n3, n4, n5, n6, n7, n8, n9, n10], [], _, _ => simp [isWord] at h1

def SlPrint (F : List SV → Option AV) : Prop := ∀ l : List RowD, rowsFit3 l → F [.sl (rowsSV l)] = some (.sv (.tup (if l.all slOk = true then [.str (slText l), .int .i64 1] else [.str [], .int .i64 2])))

def st1023 (xs : List SV) (out : List UInt8) (i : Nat) (bx : List Box) : SA := { nt := 65, tm := [(9, .sv (.int .i64 i)), (8, .sv (.int .i64 xs.length)), (7, .sv (.sl xs)), (4, .sv (.str out))], lz := none, bx := bx, df := [] }

def bad1023 (bx : List Box) : SA := { nt := 65, tm := [(3, .sv (.int .i64 2)), (2, .sv (.str []))], lz := none, bx := bx, df := [] }

theorem addS' {a b : List UInt8} (h : a.length + b.length < 4611686018427387904) : binSV .add (.str a) (.str b) = some (.str (a ++ b)) := by
  simp only [binSV, h, if_true]

set_option maxHeartbeats 8000000 in
theorem step1023_bad (E : Env) (cf : CallF) (m : Nat) (h54 : E.pure 51 = some F54) (h30 : E.pure 52 = some F30) (h55 : E.pure 53 = some F55) (h57 : E.pure 54 = some F57) (xs : List SV) (r : RowD) (hf : r.fits3) (out : List UInt8) (i : Nat) (hlt : i < xs.length)
    (hc : ∀ h : i < xs.length, xs[i]'h = .agg [.str r.name, .sl (u64s r.N), .sl (strs r.S)]) (bx : List Box) (hb : slOk r = false) :
    evCA E cf m b1023_0 (st1023 xs out i bx) = some (.ret, bad1023 (bx ++ [rowBox r])) := by
  obtain ⟨nm, N, S⟩ := r
  obtain ⟨f1, f2, f3, f4, f5⟩ := hf
  simp only at *
  have e54 : F54 [.str nm] = some (.sv (.bool (isWord nm))) := onlyIf_pos (by omega)
  have e30 : F30 [.str nm, .str slabB] = some (.sv (.bool (decide (8 ≤ nm.length) && (nm.take 8 == slabB)))) := rfl
  have e55 : F55 [.agg [.str nm, .sl (u64s N), .sl (strs S)], .int .i64 11, .int .i64 0] = some (.sv (.bool (decide (N.length = 11) && decide (S.length = 0)))) := by
    have := F55_eq nm (u64s N) (strs S) 11 0
    rw [u64s_length, strs_length] at this
    exact this
  have e57 : F57 [.int .u64 4611686018427387904, .sl (u64s N)] = some (.sv (.bool (N.all fun n => decide (n < 4611686018427387904)))) := F57_eq 4611686018427387904 N (by omega)
  unfold slOk at hb
  simp only at hb
  generalize (decide (8 ≤ nm.length) && (nm.take 8 == slabB)) = q3 at *
  generalize (decide (N.length = 11) && decide (S.length = 0)) = q4 at *
  generalize (N.all fun n => decide (n < 4611686018427387904)) = q5 at *
  have hbx : rowBox ⟨nm, N, S⟩ = .live [.sv (.str nm), .sv (.sl (u64s N)), .sv (.sl (strs S))] := rfl
  rw [hbx]
  clear hbx
  generalize u64s N = us at *
  generalize strs S = ss at *
  simp only [slabB] at e30
  cases hw : isWord nm with
  | false =>
    rw [hw] at e54
    simp [st1023, bad1023, b1023_0, hlt, hc, h54, e54]
  | true =>
    rw [hw] at e54 hb
    match nm, hw with
    | [], hw => simp [isWord] at hw
    | c :: t, hw =>
      by_cases h35 : c.toNat = 35
      · have hI : ((c.toNat : Int) == 35) = true := by simp [h35]
        simp [st1023, bad1023, b1023_0, hlt, hc, h54, e54, hI]
      · have hI : ((c.toNat : Int) == 35) = false := by simp; omega
        have hc35 : (c == (35 : UInt8)) = false := by
          rw [beq_eq_false_iff_ne]; rintro rfl; exact h35 rfl
        simp only [List.headD_cons, hc35, Bool.not_false, Bool.true_and] at hb
        cases q3 with
        | true => simp [st1023, bad1023, b1023_0, hlt, hc, h54, e54, hI, h30, e30]
        | false =>
          cases q4 with
          | false => simp [st1023, bad1023, b1023_0, hlt, hc, h54, e54, hI, h30, e30, h55, e55]
          | true =>
            cases q5 with
            | false => simp [st1023, bad1023, b1023_0, hlt, hc, h54, e54, hI, h30, e30, h55, e55, h57, e57]
            | true => simp at hb

set_option maxHeartbeats 16000000 in
theorem step1023_ok (E : Env) (cf : CallF) (m : Nat) (h54 : E.pure 51 = some F54) (h30 : E.pure 52 = some F30) (h55 : E.pure 53 = some F55) (h57 : E.pure 54 = some F57) (h44 : E.pure 55 = some F44) (h82 : E.pure 56 = some F82) (xs : List SV) (r : RowD) (hf : r.fits3) (c : UInt8) (t : List UInt8) (n0 n1 n2 n3 n4 n5 n6 n7 n8 n9 n10 : Nat) (hr : SlR r c t n0 n1 n2 n3 n4 n5 n6 n7 n8 n9 n10) (out : List UInt8) (ho : out.length < 1000000000000000000) (i : Nat) (hlt : i < xs.length) (hxl : xs.length < 1000000000)
    (hc : ∀ h : i < xs.length, xs[i]'h = .agg [.str (c :: t), .sl [.int .u64 (n0 : Int), .int .u64 (n1 : Int), .int .u64 (n2 : Int), .int .u64 (n3 : Int), .int .u64 (n4 : Int), .int .u64 (n5 : Int), .int .u64 (n6 : Int), .int .u64 (n7 : Int), .int .u64 (n8 : Int), .int .u64 (n9 : Int), .int .u64 (n10 : Int)], .sl []]) (bx : List Box) :
    evCA E cf m b1023_0 (st1023 xs out i bx) = some (.normal, st1023 xs (out ++ (slBody r ++ [10])) (i + 1) (bx ++ [rowBox r])) := by
  obtain ⟨nm, N, S⟩ := r
  obtain ⟨f1, f2, f3, f4, f5⟩ := hf
  obtain ⟨rfl, rfl, rfl, hw, h35, hb, hs⟩ := hr
  simp only at f1 f2 f3
  have hnl : (c :: t).length < 2147483648 := f1
  have e54 : F54 [.str (c :: t)] = some (.sv (.bool true)) := by
    have : F54 [.str (c :: t)] = some (.sv (.bool (isWord (c :: t)))) := onlyIf_pos (by omega)
    rw [this, hw]
  have e30 : F30 [.str (c :: t), .str slabB] = some (.sv (.bool false)) := by
    have : F30 [.str (c :: t), .str slabB] = some (.sv (.bool (decide (8 ≤ (c :: t).length) && ((c :: t).take 8 == slabB)))) := rfl
    rw [this, hb]
  have e55 : F55 [.agg [.str (c :: t), .sl [.int .u64 (n0 : Int), .int .u64 (n1 : Int), .int .u64 (n2 : Int), .int .u64 (n3 : Int), .int .u64 (n4 : Int), .int .u64 (n5 : Int), .int .u64 (n6 : Int), .int .u64 (n7 : Int), .int .u64 (n8 : Int), .int .u64 (n9 : Int), .int .u64 (n10 : Int)], .sl []], .int .i64 11, .int .i64 0] = some (.sv (.bool true)) := F55_eq (c :: t) [.int .u64 (n0 : Int), .int .u64 (n1 : Int), .int .u64 (n2 : Int), .int .u64 (n3 : Int), .int .u64 (n4 : Int), .int .u64 (n5 : Int), .int .u64 (n6 : Int), .int .u64 (n7 : Int), .int .u64 (n8 : Int), .int .u64 (n9 : Int), .int .u64 (n10 : Int)] [] 11 0
  have e57 : F57 [.int .u64 4611686018427387904, .sl [.int .u64 (n0 : Int), .int .u64 (n1 : Int), .int .u64 (n2 : Int), .int .u64 (n3 : Int), .int .u64 (n4 : Int), .int .u64 (n5 : Int), .int .u64 (n6 : Int), .int .u64 (n7 : Int), .int .u64 (n8 : Int), .int .u64 (n9 : Int), .int .u64 (n10 : Int)]] = some (.sv (.bool true)) := by
    have := F57_eq 4611686018427387904 [n0, n1, n2, n3, n4, n5, n6, n7, n8, n9, n10] (by simp)
    rw [List.all_eq_true.2 (fun n hn => by simpa using hs n hn)] at this
    exact this
  have hI : ¬ ((c.toNat : Int) = 35) := by omega
  have hlt64 : ∀ n ∈ [n0, n1, n2, n3, n4, n5, n6, n7, n8, n9, n10], n < 18446744073709551616 := fun n hn => by have := hs n hn; omega
  have jl : ∀ M : List Nat, M.length ≤ 5 → (∀ n ∈ M, n < 18446744073709551616) → (slA M).length ≤ 200 := fun M hM hn => by
    unfold slA
    refine Nat.le_trans (joinS_len _) ?_
    have h1 : ((M.map decS).map List.length).sum ≤ M.length * 20 := by
      clear hM
      induction M with
      | nil => simp
      | cons a M ih =>
        have h1 := decS_len20 (hn a (by simp))
        have h2 := ih (fun n hm => hn n (by simp [hm]))
        simp only [List.map_cons, List.sum_cons, List.length_cons]; omega
    simp only [List.length_map, List.length_cons, List.length_nil]; omega
  have j1 := jl [n0, n1, n2, n3, n4] (by simp) (fun n hn => hlt64 n (by simp only [List.mem_cons, List.not_mem_nil, or_false] at hn ⊢; omega))
  have j2 := jl [n5, n6, n7] (by simp) (fun n hn => hlt64 n (by simp only [List.mem_cons, List.not_mem_nil, or_false] at hn ⊢; omega))
  have j3 := jl [n8, n9, n10] (by simp) (fun n hn => hlt64 n (by simp only [List.mem_cons, List.not_mem_nil, or_false] at hn ⊢; omega))
  have e1 : F82 [.sl [.int .u64 (n0 : Int), .int .u64 (n1 : Int), .int .u64 (n2 : Int), .int .u64 (n3 : Int), .int .u64 (n4 : Int)], .str [32]] = some (.sv (.str (slA [n0, n1, n2, n3, n4]))) := F82_eq [n0, n1, n2, n3, n4] [32] (by simp) (fun n hn => hlt64 n (by simp only [List.mem_cons, List.not_mem_nil, or_false] at hn ⊢; omega)) (by show (slA [n0, n1, n2, n3, n4]).length < _; omega)
  have e2 : F82 [.sl [.int .u64 (n5 : Int), .int .u64 (n6 : Int), .int .u64 (n7 : Int)], .str [32]] = some (.sv (.str (slA [n5, n6, n7]))) := F82_eq [n5, n6, n7] [32] (by simp) (fun n hn => hlt64 n (by simp only [List.mem_cons, List.not_mem_nil, or_false] at hn ⊢; omega)) (by show (slA [n5, n6, n7]).length < _; omega)
  have e3 : F82 [.sl [.int .u64 (n8 : Int), .int .u64 (n9 : Int), .int .u64 (n10 : Int)], .str [32]] = some (.sv (.str (slA [n8, n9, n10]))) := F82_eq [n8, n9, n10] [32] (by simp) (fun n hn => hlt64 n (by simp only [List.mem_cons, List.not_mem_nil, or_false] at hn ⊢; omega)) (by show (slA [n8, n9, n10]).length < _; omega)
  have e44 : F44 [.str (c :: t), .int .i64 17] = some (.sv (.str (leftS (c :: t) 17))) := F44_eq (c :: t) 17 (by omega) (by omega)
  have j0 := leftS_len (c :: t) 17
  have hbody : slBody ⟨c :: t, [n0, n1, n2, n3, n4, n5, n6, n7, n8, n9, n10], []⟩ = leftS (c :: t) 17 ++ ([32] ++ (slA [n0, n1, n2, n3, n4] ++ (slTun ++ (slA [n5, n6, n7] ++ (slSld ++ slA [n8, n9, n10]))))) := rfl
  rw [hbody]
  have hw' : binSV .add (.int .i64 (i : Int)) (.int .i64 1) = some (.int .i64 ((i + 1 : Nat) : Int)) := by
    simp only [binSV, if_true]
    rw [show IntKind.i64.wrap ((i : Int) + 1) = ((i + 1 : Nat) : Int) from by rw [IntKind.wrap_i64]; omega]
  have hlss : binSV .lss (.int .i64 (i : Int)) (.int .i64 (xs.length : Int)) = some (.bool true) := by
    simp only [binSV, if_true, show (i : Int) < (xs.length : Int) from by omega, decide_true]
  have heq : binSV .eql (.int .u8 (c.toNat : Int)) (.int .u8 35) = some (.bool false) := by
    simp [hI]
  simp only [slabB] at e30
  have tl : slTun.length = 12 := rfl
  have sl' : slSld.length = 12 := rfl
  generalize hL : leftS (c :: t) 17 = L at *
  generalize slA [n0, n1, n2, n3, n4] = J1 at *
  generalize slA [n5, n6, n7] = J2 at *
  generalize slA [n8, n9, n10] = J3 at *
  clear hbody hs hlt64 jl f1 f2 f3 f4 f5 hw hb
  obtain ⟨Z1, hZ1⟩ : ∃ z, z = L ++ [32] := ⟨_, rfl⟩
  have y1 : binSV .add (.str L) (.str [32]) = some (.str Z1) := by rw [hZ1]; exact addS' (by simp; omega)
  have x1 : Z1.length ≤ L.length + 1 := by rw [hZ1]; simp
  obtain ⟨Z2, hZ2⟩ : ∃ z, z = Z1 ++ J1 := ⟨_, rfl⟩
  have y2 : binSV .add (.str Z1) (.str J1) = some (.str Z2) := by rw [hZ2]; exact addS' (by omega)
  have x2 : Z2.length ≤ L.length + 300 := by rw [hZ2, List.length_append]; omega
  obtain ⟨Z3, hZ3⟩ : ∃ z, z = Z2 ++ slTun := ⟨_, rfl⟩
  have y3 : binSV .add (.str Z2) (.str slTun) = some (.str Z3) := by rw [hZ3]; exact addS' (by omega)
  have x3 : Z3.length ≤ L.length + 400 := by rw [hZ3, List.length_append]; omega
  obtain ⟨Z4, hZ4⟩ : ∃ z, z = Z3 ++ J2 := ⟨_, rfl⟩
  have y4 : binSV .add (.str Z3) (.str J2) = some (.str Z4) := by rw [hZ4]; exact addS' (by omega)
  have x4 : Z4.length ≤ L.length + 600 := by rw [hZ4, List.length_append]; omega
  obtain ⟨Z5, hZ5⟩ : ∃ z, z = Z4 ++ slSld := ⟨_, rfl⟩
  have y5 : binSV .add (.str Z4) (.str slSld) = some (.str Z5) := by rw [hZ5]; exact addS' (by omega)
  have x5 : Z5.length ≤ L.length + 700 := by rw [hZ5, List.length_append]; omega
  obtain ⟨Z6, hZ6⟩ : ∃ z, z = Z5 ++ J3 := ⟨_, rfl⟩
  have y6 : binSV .add (.str Z5) (.str J3) = some (.str Z6) := by rw [hZ6]; exact addS' (by omega)
  have x6 : Z6.length ≤ L.length + 900 := by rw [hZ6, List.length_append]; omega
  obtain ⟨Z7, hZ7⟩ : ∃ z, z = Z6 ++ [10] := ⟨_, rfl⟩
  have y7 : binSV .add (.str Z6) (.str [10]) = some (.str Z7) := by rw [hZ7]; exact addS' (by simp; omega)
  have x7 : Z7.length ≤ L.length + 901 := by rw [hZ7]; simp; omega
  obtain ⟨Z8, hZ8⟩ : ∃ z, z = out ++ Z7 := ⟨_, rfl⟩
  have y8 : binSV .add (.str out) (.str Z7) = some (.str Z8) := by rw [hZ8]; exact addS' (by omega)
  have hfin : out ++ (L ++ ([32] ++ (J1 ++ (slTun ++ (J2 ++ (slSld ++ J3))))) ++ [10]) = Z8 := by
    rw [hZ8, hZ7, hZ6, hZ5, hZ4, hZ3, hZ2, hZ1]
    simp only [List.append_assoc]
  rw [hfin]
  simp only [slTun] at y3
  simp only [slSld] at y5
  clear hZ1 hZ2 hZ3 hZ4 hZ5 hZ6 hZ7 hZ8 hfin x1 x2 x3 x4 x5 x6 x7 j0 j1 j2 j3 hL
  simp [-binSV, st1023, b1023_0, hlss, hlt, hc, rowBox, u64s, strs, h54, e54, heq, h30, e30, h55, e55, h57, e57, h44, e44, h82, e1, e2, e3, hw', y1, y2, y3, y4, y5, y6, y7, y8]

end Go.Ev

set_option linter.unusedSimpArgs false
set_option linter.unusedVariables false
namespace Go.Ev
open Go.Proofs

theorem slRow_eq {r : RowD} {c : UInt8} {t : List UInt8} {n0 n1 n2 n3 n4 n5 n6 n7 n8 n9 n10 : Nat} (h : SlR r c t n0 n1 n2 n3 n4 n5 n6 n7 n8 n9 n10) : r = ⟨c :: t, [n0, n1, n2, n3, n4, n5, n6, n7, n8, n9, n10], []⟩ := by
  obtain ⟨nm, N, S⟩ := r
  obtain ⟨rfl, rfl, rfl, _⟩ := h
  rfl

set_option maxHeartbeats 2000000 in
theorem slBody_len {r : RowD} (hf : r.fits3) (h : slOk r = true) : (slBody r).length ≤ 2147485000 := by
  obtain ⟨c, t, n0, n1, n2, n3, n4, n5, n6, n7, n8, n9, n10, hr⟩ := slOk_spec h
  have hlt64 : ∀ n ∈ [n0, n1, n2, n3, n4, n5, n6, n7, n8, n9, n10], n < 18446744073709551616 := fun n hn => by have := hr.hs n hn; omega
  rw [slRow_eq hr] at hf ⊢
  obtain ⟨f1, _⟩ := hf
  simp only at f1
  have jl : ∀ M : List Nat, M.length ≤ 5 → (∀ n ∈ M, n < 18446744073709551616) → (slA M).length ≤ 200 := fun M hM hn => by
    unfold slA
    refine Nat.le_trans (joinS_len _) ?_
    have h1 : ((M.map decS).map List.length).sum ≤ M.length * 20 := by
      clear hM
      induction M with
      | nil => simp
      | cons a M ih =>
        have h1 := decS_len20 (hn a (by simp))
        have h2 := ih (fun n hm => hn n (by simp [hm]))
        simp only [List.map_cons, List.sum_cons, List.length_cons]; omega
    simp only [List.length_map, List.length_cons, List.length_nil]; omega
  have j1 := jl [n0, n1, n2, n3, n4] (by simp) (fun n hn => hlt64 n (by simp only [List.mem_cons, List.not_mem_nil, or_false] at hn ⊢; omega))
  have j2 := jl [n5, n6, n7] (by simp) (fun n hn => hlt64 n (by simp only [List.mem_cons, List.not_mem_nil, or_false] at hn ⊢; omega))
  have j3 := jl [n8, n9, n10] (by simp) (fun n hn => hlt64 n (by simp only [List.mem_cons, List.not_mem_nil, or_false] at hn ⊢; omega))
  have j0 := leftS_len (c :: t) 17
  have hbody : slBody ⟨c :: t, [n0, n1, n2, n3, n4, n5, n6, n7, n8, n9, n10], []⟩ = leftS (c :: t) 17 ++ ([32] ++ (slA [n0, n1, n2, n3, n4] ++ (slTun ++ (slA [n5, n6, n7] ++ (slSld ++ slA [n8, n9, n10]))))) := rfl
  rw [hbody]
  have tl : slTun.length = 12 := rfl
  have sl' : slSld.length = 12 := rfl
  clear jl hlt64 hr hbody
  generalize leftS (c :: t) 17 = L at *
  generalize slA [n0, n1, n2, n3, n4] = J1 at *
  generalize slA [n5, n6, n7] = J2 at *
  generalize slA [n8, n9, n10] = J3 at *
  generalize (c :: t).length = q at *
  simp only [List.length_append, tl, sl', List.length_cons, List.length_nil]
  omega

theorem loop1023 (E : Env) (cf : CallF) (m : Nat) (h54 : E.pure 51 = some F54) (h30 : E.pure 52 = some F30) (h55 : E.pure 53 = some F55) (h57 : E.pure 54 = some F57) (h44 : E.pure 55 = some F44) (h82 : E.pure 56 = some F82) (xs : List SV) (hxl : xs.length < 100000000) :
    ∀ (rest : List RowD) (pre : List SV) (out : List UInt8) (i : Nat) (bx : List Box) (k : Nat), xs = pre ++ rowsSV rest → i = pre.length → out.length ≤ 1000 + i * 2147486000 → (∀ r ∈ rest, r.fits3) → rest.length < k →
      ∃ bx', roundsA (evCA E cf m b1023_0) k (st1023 xs out i bx) = if rest.all slOk = true then some (.exit 0, { nt := 65, tm := [(4, .sv (.str (out ++ (rest.map fun r => slBody r ++ [10]).flatten)))], lz := none, bx := bx', df := [] }) else some (.ret, bad1023 bx') := by
  intro rest
  induction rest with
  | nil =>
    intro pre out i bx k hsp hi _ _ hk
    obtain ⟨k, rfl⟩ : ∃ k', k = k' + 1 := ⟨k - 1, by omega⟩
    have hlt : ¬ (i < xs.length) := by rw [hsp, hi]; simp [rowsSV]
    refine ⟨bx, ?_⟩
    rw [if_pos (by simp)]
    refine roundsA_out ?_ (by simp)
    simp [st1023, b1023_0, hlt]
  | cons r rest ih =>
    intro pre out i bx k hsp hi ho hf hk
    obtain ⟨k, rfl⟩ : ∃ k', k = k' + 1 := ⟨k - 1, by omega⟩
    have hlt : i < xs.length := by rw [hsp, hi]; simp [rowsSV]
    cases hok : slOk r with
    | false =>
      have hc : ∀ h : i < xs.length, xs[i]'h = .agg [.str r.name, .sl (u64s r.N), .sl (strs r.S)] := by subst hi; subst hsp; simp [rowsSV, RowD.sv]
      have hst := step1023_bad E cf m h54 h30 h55 h57 xs r (hf r (by simp)) out i hlt hc bx hok
      refine ⟨bx ++ [rowBox r], ?_⟩
      rw [if_neg (by simp [hok])]
      exact roundsA_out hst (by simp)
    | true =>
      obtain ⟨c, t, n0, n1, n2, n3, n4, n5, n6, n7, n8, n9, n10, hr⟩ := slOk_spec hok
      have hreq := slRow_eq hr
      have hc : ∀ h : i < xs.length, xs[i]'h = .agg [.str (c :: t), .sl [.int .u64 (n0 : Int), .int .u64 (n1 : Int), .int .u64 (n2 : Int), .int .u64 (n3 : Int), .int .u64 (n4 : Int), .int .u64 (n5 : Int), .int .u64 (n6 : Int), .int .u64 (n7 : Int), .int .u64 (n8 : Int), .int .u64 (n9 : Int), .int .u64 (n10 : Int)], .sl []] := by subst hi; subst hsp; simp [rowsSV, RowD.sv, hreq, u64s, strs]
      have hst := step1023_ok E cf m h54 h30 h55 h57 h44 h82 xs r (hf r (by simp)) c t n0 n1 n2 n3 n4 n5 n6 n7 n8 n9 n10 hr out (by omega) i hlt (by omega) hc bx
      have hbl := slBody_len (hf r (by simp)) hok
      obtain ⟨bx', he⟩ := ih (pre ++ [r.sv]) (out ++ (slBody r ++ [10])) (i + 1) (bx ++ [rowBox r]) k (by rw [hsp]; simp [rowsSV]) (by simp [hi]) (by simp; omega) (fun q hq => hf q (by simp [hq])) (by simp at hk; omega)
      refine ⟨bx', ?_⟩
      rw [roundsA_step hst, he]
      simp [hok]

set_option maxRecDepth 20000 in
set_option maxHeartbeats 2000000 in
theorem ev1023 (E : Env) (h : E.code 23 = some c1023) (h54 : E.pure 51 = some F54) (h30 : E.pure 52 = some F30) (h55 : E.pure 53 = some F55) (h57 : E.pure 54 = some F57) (h44 : E.pure 55 = some F44) (h82 : E.pure 56 = some F82) : SlPrint (autoF E 23) := by
  intro l hf
  have hlen : (rowsSV l).length = l.length := by simp [rowsSV]
  obtain ⟨bx', he⟩ := loop1023 E (evF E (l.length + 1)) (l.length + 1) h54 h30 h55 h57 h44 h82 (rowsSV l) (by rw [hlen]; exact hf.1) l [] slHead 0 [] (l.length + 1) rfl rfl (show slHead.length ≤ 1000 + 0 * 2147486000 from by decide) hf.2 (by omega)
  refine autoA_sv (n := l.length + 1) ?_ rfl
  unfold evPA
  simp only [h]
  unfold slText
  have hd : slHead = [115, 108, 97, 98, 105, 110, 102, 111, 32, 45, 32, 118, 101, 114, 115, 105, 111, 110, 58, 32, 50, 46, 49, 10, 35, 32, 110, 97, 109, 101, 32, 32, 32, 32, 32, 32, 32, 32, 32, 32, 32, 32, 60, 97, 99, 116, 105, 118, 101, 95, 111, 98, 106, 115, 62, 32, 60, 110, 117, 109, 95, 111, 98, 106, 115, 62, 32, 60, 111, 98, 106, 115, 105, 122, 101, 62, 32, 60, 111, 98, 106, 112, 101, 114, 115, 108, 97, 98, 62, 32, 60, 112, 97, 103, 101, 115, 112, 101, 114, 115, 108, 97, 98, 62, 32, 58, 32, 116, 117, 110, 97, 98, 108, 101, 115, 32, 60, 108, 105, 109, 105, 116, 62, 32, 60, 98, 97, 116, 99, 104, 99, 111, 117, 110, 116, 62, 32, 60, 115, 104, 97, 114, 101, 100, 102, 97, 99, 116, 111, 114, 62, 32, 58, 32, 115, 108, 97, 98, 100, 97, 116, 97, 32, 60, 97, 99, 116, 105, 118, 101, 95, 115, 108, 97, 98, 115, 62, 32, 60, 110, 117, 109, 95, 115, 108, 97, 98, 115, 62, 32, 60, 115, 104, 97, 114, 101, 100, 97, 118, 97, 105, 108, 62, 10] := rfl
  simp only [st1023, Int.ofNat_zero, Int.natCast_zero] at he ⊢
  generalize slHead ++ (l.map fun r => slBody r ++ [10]).flatten = o at he ⊢
  rw [hd] at he
  clear hd
  cases ha : l.all slOk with
  | false =>
    rw [ha, if_neg (by simp)] at he
    simp only [bad1023] at he
    simp [c1023, he]
  | true =>
    rw [ha, if_pos rfl] at he
    simp [c1023, he]

/-! ### The tree -/

def slNames : List (List UInt8) := [[79, 98, 106, 65, 99, 116, 105, 118, 101], [79, 98, 106, 78, 117, 109], [79, 98, 106, 83, 105, 122, 101], [79, 98, 106, 80, 101, 114, 83, 108, 97, 98], [80, 97, 103, 101, 115, 80, 101, 114, 83, 108, 97, 98], [76, 105, 109, 105, 116], [66, 97, 116, 99, 104], [83, 104, 97, 114, 101, 100, 70, 97, 99, 116, 111, 114], [83, 108, 97, 98, 65, 99, 116, 105, 118, 101], [83, 108, 97, 98, 78, 117, 109], [83, 104, 97, 114, 101, 100, 65, 118, 97, 105, 108]]

def slNode (r : RowD) : SV := nodeV [] 8 false 0 0 0 [] (nodeV [78, 97, 109, 101] 5 false 0 0 0 r.name [] :: List.zipWith (fun s n => nodeV s 2 false ((n : Nat) : Int) 0 0 [] []) slNames r.N)

def slTree (l : List RowD) : SV := nodeV [] 8 false 0 0 0 [] [nodeV [83, 108, 97, 98, 115] 6 false 0 0 0 [] (l.map slNode)]

theorem slTree_node (l : List RowD) (hl : l.length < 100000000) : IsNode (slTree l) := by
  have kid : ∀ r, IsNode (slNode r) := fun r => by
    unfold slNode
    have hz : (List.zipWith (fun s n => nodeV s 2 false ((n : Nat) : Int) 0 0 [] []) slNames r.N).length ≤ 11 := by
      rw [List.length_zipWith]; exact Nat.min_le_left _ _
    refine .mk _ _ _ _ _ _ _ _ (by simp only [List.length_cons]; omega) fun k hk => ?_
    rcases List.mem_cons.1 hk with rfl | hk
    · exact .mk _ _ _ _ _ _ _ _ (by simp) (by simp)
    · obtain ⟨i, hi, rfl⟩ := List.getElem_of_mem hk
      rw [List.getElem_zipWith]
      exact .mk _ _ _ _ _ _ _ _ (by simp) (by simp)
  refine .mk _ _ _ _ _ _ _ _ (by simp) fun k hk => ?_
  rw [List.mem_singleton] at hk
  subst hk
  refine .mk _ _ _ _ _ _ _ _ (by simp; omega) fun k hk => ?_
  obtain ⟨r, _, rfl⟩ := List.mem_map.1 hk
  exact kid r

end Go.Ev

set_option linter.unusedSimpArgs false
set_option linter.unusedVariables false
namespace Go.Ev
open Go.Proofs

def S1058 (F : List SV → Option AV) : Prop := F [] = some (.sv (.sl (strs slNames)))

theorem ev1058 (E : Env) (h : E.code 58 = some c1058) : S1058 (autoF E 58) := by
  refine autoA_sl (n := 1) (xs := strs slNames) (r := .own 9 (strs slNames)) ?_ rfl
  unfold evPA
  simp only [h]
  simp [c1058, strs, slNames]

def kidN (z : List UInt8 × Nat) : SV := nodeV z.1 2 false ((z.2 : Nat) : Int) 0 0 [] []

theorem step1024_0 (E : Env) (cf : CallF) (m : Nat) (h66 : E.pure 42 = some F66) (a20 a21 a22 a6 : AV) (xs us : List SV) (y : SV) (ys : List SV) (hy : ys.length < 1000) (j : Nat) (hlt : j < xs.length) (hxl : xs.length < 1000) (s : List UInt8) (hx : ∀ h : j < xs.length, xs[j]'h = .str s) (hul : j < us.length) (n : Nat) (hu : ∀ h : j < us.length, us[j]'h = .int .u64 (n : Int)) (hn : n < 4611686018427387904) (p : Nat) (B : List Box) (c0 c2 : Cell) (hB : B[p]? = some (.live [c0, .sv (.sl us), c2])) :
    evCA E cf m b1024_0 { nt := 59, tm := [(32, .sv (.int .i64 j)), (31, .sv (.int .i64 xs.length)), (30, .sv (.sl xs)), (22, a22), (21, a21), (20, a20), (9, .own 43 (y :: ys)), (8, .ptr p 0), (6, a6), (2, .ptr 0 0)], lz := none, bx := B, df := [] } = some (.normal, { nt := 59, tm := [(32, .sv (.int .i64 ((j + 1 : Nat) : Int))), (31, .sv (.int .i64 xs.length)), (30, .sv (.sl xs)), (22, a22), (21, a21), (20, a20), (9, .own 43 (y :: (ys ++ [kidN (s, n)]))), (8, .ptr p 0), (6, a6), (2, .ptr 0 0)], lz := none, bx := B, df := [] }) := by
  have hw : IntKind.i64.wrap ((j : Int) + 1) = ((j + 1 : Nat) : Int) := by rw [IntKind.wrap_i64]; omega
  have hwn : IntKind.i64.wrap (n : Int) = (n : Int) := by rw [IntKind.wrap_i64]; omega
  have hl1 : (ys.length + 1 + 1) * 96 ≤ 140737488355328 := by omega
  have hl2 : ys.length + 1 + 1 ≤ 140737488355328 := by omega
  simp [b1024_0, hlt, hx, hul, hu, hB, h66, F66, hwn, hw, hl1, hl2, kidN, nodeV]

theorem loop1024_0 (E : Env) (cf : CallF) (m : Nat) (h66 : E.pure 42 = some F66) (a20 a21 a22 a6 : AV) (xs us : List SV) (hxl : xs.length < 1000) (y : SV) (p : Nat) (B : List Box) (c0 c2 : Cell) (hB : B[p]? = some (.live [c0, .sv (.sl us), c2])) :
    ∀ (rest pre : List (List UInt8 × Nat)) (ys : List SV) (j k : Nat), xs = strs ((pre ++ rest).map (·.1)) → us = u64s ((pre ++ rest).map (·.2)) → j = pre.length → ys.length = j → (∀ z ∈ rest, z.2 < 4611686018427387904) → rest.length < k →
      roundsA (evCA E cf m b1024_0) k { nt := 59, tm := [(32, .sv (.int .i64 j)), (31, .sv (.int .i64 xs.length)), (30, .sv (.sl xs)), (22, a22), (21, a21), (20, a20), (9, .own 43 (y :: ys)), (8, .ptr p 0), (6, a6), (2, .ptr 0 0)], lz := none, bx := B, df := [] } = some (.exit 2, { nt := 59, tm := [(22, a22), (21, a21), (20, a20), (9, .own 43 (y :: (ys ++ rest.map kidN))), (6, a6), (2, .ptr 0 0)], lz := none, bx := B, df := [] }) := by
  intro rest
  induction rest with
  | nil =>
    intro pre ys j k hsp _ hj _ _ hk
    obtain ⟨k, rfl⟩ : ∃ k', k = k' + 1 := ⟨k - 1, by omega⟩
    have hlt : ¬ (j < xs.length) := by rw [hsp, hj]; simp [strs]
    refine roundsA_out ?_ (by simp)
    simp [b1024_0, hlt]
  | cons z rest ih =>
    intro pre ys j k hsp hup hj hy hz hk
    obtain ⟨k, rfl⟩ : ∃ k', k = k' + 1 := ⟨k - 1, by omega⟩
    have hlt : j < xs.length := by rw [hsp, hj]; simp [strs]
    have hul : j < us.length := by rw [hup, hj]; simp [u64s]
    have hx : ∀ h : j < xs.length, xs[j]'h = .str z.1 := by subst hj; subst hsp; simp [strs]
    have hu : ∀ h : j < us.length, us[j]'h = .int .u64 (z.2 : Int) := by subst hj; subst hup; simp [u64s]
    have hst := step1024_0 E cf m h66 a20 a21 a22 a6 xs us y ys (by omega) j hlt hxl z.1 hx hul z.2 hu (hz z (by simp)) p B c0 c2 hB
    rw [roundsA_step hst, ih (pre ++ [z]) (ys ++ [kidN z]) (j + 1) k (by rw [hsp]; simp) (by rw [hup]; simp) (by simp [hj]) (by simp [hy]) (fun q hq => hz q (by simp [hq])) (by simp at hk; omega)]
    simp

def st1024 (xs acc : List SV) (i : Nat) (z : Box) (bx : List Box) : SA := { nt := 59, tm := [(22, .sv (.int .i64 i)), (21, .sv (.int .i64 xs.length)), (20, .sv (.sl xs)), (6, accA 43 acc), (2, .ptr 0 0)], lz := none, bx := z :: bx, df := [] }

set_option maxHeartbeats 16000000 in
theorem step1024_1 (E : Env) (cf : CallF) (m : Nat) (hm : 20 < m) (h33 : E.pure 43 = some F33) (h34 : E.pure 57 = some F34) (h66 : E.pure 42 = some F66) (h58 : Has E 58 S1058) (xs acc : List SV) (ha : acc.length < 1000000000) (r : RowD) (c : UInt8) (t : List UInt8) (n0 n1 n2 n3 n4 n5 n6 n7 n8 n9 n10 : Nat) (hr : SlR r c t n0 n1 n2 n3 n4 n5 n6 n7 n8 n9 n10) (i : Nat) (hlt : i < xs.length) (hxl : xs.length < 1000000000)
    (hc : ∀ h : i < xs.length, xs[i]'h = .agg [.str (c :: t), .sl [.int .u64 (n0 : Int), .int .u64 (n1 : Int), .int .u64 (n2 : Int), .int .u64 (n3 : Int), .int .u64 (n4 : Int), .int .u64 (n5 : Int), .int .u64 (n6 : Int), .int .u64 (n7 : Int), .int .u64 (n8 : Int), .int .u64 (n9 : Int), .int .u64 (n10 : Int)], .sl []]) (z : Box) (bx : List Box) :
    evCA E cf m b1024_1 (st1024 xs acc i z bx) = some (.normal, st1024 xs (acc ++ [slNode r]) (i + 1) z (bx ++ [rowBox r])) := by
  obtain ⟨FN, hpN, hN⟩ := h58
  have hw : IntKind.i64.wrap ((i : Int) + 1) = ((i + 1 : Nat) : Int) := by rw [IntKind.wrap_i64]; omega
  have hl1 : (acc.length + 1) * 96 ≤ 140737488355328 := by omega
  have hl2 : acc.length + 1 ≤ 140737488355328 := by omega
  have hreq := slRow_eq hr
  have hnode : slNode r = nodeV [] 8 false 0 0 0 [] (nodeV [78, 97, 109, 101] 5 false 0 0 0 (c :: t) [] :: (slNames.zip [n0, n1, n2, n3, n4, n5, n6, n7, n8, n9, n10]).map kidN) := by rw [hreq]; rfl
  have hB : (z :: (bx ++ [rowBox r]))[bx.length + 1]? = some (.live [.sv (.str (c :: t)), .sv (.sl [.int .u64 (n0 : Int), .int .u64 (n1 : Int), .int .u64 (n2 : Int), .int .u64 (n3 : Int), .int .u64 (n4 : Int), .int .u64 (n5 : Int), .int .u64 (n6 : Int), .int .u64 (n7 : Int), .int .u64 (n8 : Int), .int .u64 (n9 : Int), .int .u64 (n10 : Int)]), .sv (.sl [])]) := by
    rw [hreq]; simp [rowBox, u64s, strs]
  have hin := loop1024_0 E cf m h66 (.sv (.sl xs)) (.sv (.int .i64 xs.length)) (.sv (.int .i64 i)) (accA 43 acc) (strs slNames) [.int .u64 (n0 : Int), .int .u64 (n1 : Int), .int .u64 (n2 : Int), .int .u64 (n3 : Int), .int .u64 (n4 : Int), .int .u64 (n5 : Int), .int .u64 (n6 : Int), .int .u64 (n7 : Int), .int .u64 (n8 : Int), .int .u64 (n9 : Int), .int .u64 (n10 : Int)] (by simp [strs, slNames]) (nodeV [78, 97, 109, 101] 5 false 0 0 0 (c :: t) []) (bx.length + 1) (z :: (bx ++ [rowBox r])) _ _ hB (slNames.zip [n0, n1, n2, n3, n4, n5, n6, n7, n8, n9, n10]) [] [] 0 m rfl rfl rfl rfl (fun q hq => hr.hs q.2 (List.of_mem_zip hq).2) (by simp [slNames]; omega)
  rw [hnode]
  rw [hreq] at hin ⊢
  clear hnode hB hreq hr
  unfold S1058 at hN
  generalize (slNames.zip [n0, n1, n2, n3, n4, n5, n6, n7, n8, n9, n10]).map kidN = ks at *
  have hsl : ((strs slNames).length : Int) = 11 := rfl
  rw [hsl] at hin
  have hsl2 : (strs slNames).length = 11 := rfl
  generalize strs slNames = sn at *
  simp only [List.nil_append, Int.ofNat_zero, Int.natCast_zero] at hin
  simp only [nodeV, rowBox, u64s, strs, List.map_cons, List.map_nil] at hin ⊢
  cases acc with
  | nil =>
    simp only [accA] at hin
    simp [st1024, b1024_1, hlt, hc, hpN, hN, h34, F34, h33, F33, nodeV, hsl2, hin, hw, accA]
  | cons y ys =>
    simp only [List.length_cons] at hl1 hl2
    simp only [accA] at hin
    simp [st1024, b1024_1, hlt, hc, hpN, hN, h34, F34, h33, F33, nodeV, hsl2, hin, hw, accA, hl1, hl2]

end Go.Ev
