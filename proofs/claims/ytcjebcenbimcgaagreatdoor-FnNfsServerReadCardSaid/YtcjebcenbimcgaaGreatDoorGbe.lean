/- NFS: the server: the door's reading (lines printed by a program of this work). -/
/- NFS: the server: the door's reading, whole (lines printed by a program of this work). -/
/- NFS: the server: the door's reading, all lines (lines printed by a program of this work). -/
/- NFS: the server: the door's tree (lines printed by a program of this work). -/
import Derived.Test.YtcjebcenbimcgaaGreatDoorGbc
import Derived.Test.YtcjebcenbimcgaaGreatDoorGbd
import Derived.Test.YtcjebcenbimcgaaGreatDoorGba
import Derived.Test.YtcjebcenbimcgaaGreatDoorGaq
set_option linter.unusedSimpArgs false
set_option linter.unusedVariables false
namespace Go.Ev
open Go.Proofs
def S3153 (F : List SV → Option AV) : Prop := ∀ ns : List Nat, ns.length < 1000000000000 → (∀ n ∈ ns, n < 18446744073709551616) → F [.sl (strs (ns.map decS))] = some (.sv (.tup [.sl (u64s ns), .nilI]))
def st3153 (xs acc : List SV) (i : Nat) : SA := { nt := 32, tm := [(14, .sv (.int .i64 i)), (13, .sv (.int .i64 xs.length)), (12, .sv (.sl xs)), (4, .own 34 acc)], lz := none, bx := [], df := [] }
theorem loop3153 (E : Env) (cf : CallF) (m : Nat) (h91 : Has E 120 S91v) (xs : List SV) (hxl : xs.length < 1000000000000) :
    ∀ (rest : List Nat) (pre acc : List SV) (i k : Nat), xs = pre ++ strs (rest.map decS) → i = pre.length → acc.length = i → (∀ n ∈ rest, n < 18446744073709551616) → rest.length < k →
      roundsA (evCA E cf m b3153_0) k (st3153 xs acc i) = some (.exit 0, { nt := 32, tm := [(4, .own 34 (acc ++ u64s rest))], lz := none, bx := [], df := [] }) := by
  obtain ⟨F, hp, _, hF⟩ := h91
  intro rest
  induction rest with
  | nil =>
    intro pre acc i k hsp hi _ _ hk
    obtain ⟨k, rfl⟩ : ∃ k', k = k' + 1 := ⟨k - 1, by omega⟩
    have hlt : ¬ (i < xs.length) := by rw [hsp, hi]; simp [strs]
    refine roundsA_out ?_ (by simp)
    simp [st3153, b3153_0, hlt, u64s]
  | cons n rest ih =>
    intro pre acc i k hsp hi ha hr hk
    obtain ⟨k, rfl⟩ : ∃ k', k = k' + 1 := ⟨k - 1, by omega⟩
    have hlt : i < xs.length := by rw [hsp, hi]; simp [strs]
    have hc : ∀ h : i < xs.length, xs[i]'h = .str (decS n) := by subst hi; subst hsp; simp [strs]
    have hF1 := hF n (hr n (by simp))
    have hw : IntKind.i64.wrap ((i : Int) + 1) = ((i + 1 : Nat) : Int) := by rw [IntKind.wrap_i64]; omega
    have hl1 : (acc.length + 1) * 8 ≤ 140737488355328 := by omega
    have hl2 : acc.length + 1 ≤ 140737488355328 := by omega
    have hst : evCA E cf m b3153_0 (st3153 xs acc i) = some (.normal, st3153 xs (acc ++ [.int .u64 (n : Int)]) (i + 1)) := by
      generalize decS n = D at *
      simp [st3153, b3153_0, hlt, hc, hp, hF1, hw, hl1, hl2]
    have hk' : rest.length < k := by simp at hk; omega
    have hi' := ih (pre ++ [.str (decS n)]) (acc ++ [.int .u64 (n : Int)]) (i + 1) k (by rw [hsp]; simp [strs]) (by simp [hi]) (by simp [ha]) (fun q hq => hr q (by simp [hq])) hk'
    rw [roundsA_step hst]
    refine Eq.trans hi' ?_
    simp [u64s]
theorem ev3153 (E : Env) (h : E.code 153 = some c3153) (h91 : Has E 120 S91v) : S3153 (autoF E 153) := by
  intro ns hl hn
  have hxl : (strs (ns.map decS)).length = ns.length := by rw [strs_length]; simp
  have he := loop3153 E (evF E (ns.length + 1)) (ns.length + 1) h91 (strs (ns.map decS)) (by omega) ns [] [] 0 (ns.length + 1) rfl rfl rfl hn (by omega)
  have a1 : (0 : Int) ≤ (ns.length : Int) := by omega
  have a2 : (ns.length : Int) * 8 ≤ 70368744177664 := by omega
  have a3 : (ns.length : Int) ≤ 70368744177664 := by omega
  have a4 : ns.length * 8 ≤ 70368744177664 := by omega
  have a5 : ns.length ≤ 70368744177664 := by omega
  refine autoA_sv (n := ns.length + 1) ?_ rfl
  unfold evPA
  simp only [h]
  simp only [st3153, hxl, Int.ofNat_zero, Int.natCast_zero, List.nil_append] at he
  generalize u64s ns = U at *
  generalize strs (ns.map decS) = X at *
  simp [c3153, hxl, a1, a2, a3, a4, a5, he]
structure Lay where
  label : List UInt8
  vals : List Nat → List SV
  zero : List SV
def zeros (k : Nat) : List SV := List.replicate k (.int .u64 0)
def raVals (ns : List Nat) : List SV := [.int .u64 ((ns.getD 0 0 : Nat) : Int), .sl (u64s ((ns.drop 1).take 10)), .int .u64 ((ns.getD 11 0 : Nat) : Int)]
def srvLay : List Lay := [⟨[114, 99], u64s, zeros 3⟩, ⟨[102, 104], u64s, zeros 5⟩, ⟨[105, 111], u64s, zeros 2⟩, ⟨[116, 104], u64s, zeros 2⟩, ⟨[114, 97], raVals, [.int .u64 0, .nilS, .int .u64 0]⟩, ⟨[110, 101, 116], u64s, zeros 4⟩, ⟨[114, 112, 99], u64s, zeros 5⟩, ⟨[112, 114, 111, 99, 50], u64s, zeros 18⟩, ⟨[112, 114, 111, 99, 51], u64s, zeros 22⟩, ⟨[112, 114, 111, 99, 52], u64s, zeros 2⟩, ⟨[112, 114, 111, 99, 52, 111, 112, 115], fun ns => u64s (ns.take 40), zeros 40⟩, ⟨[119, 100, 101, 108, 101, 103, 95, 103, 101, 116, 97, 116, 116, 114], u64s, zeros 1⟩]
def layPart (done : List RowD) (p : Lay) : List SV := match rowOf done p.label with
  | some r => p.vals r.N
  | none => p.zero
def layCells (L : List Lay) (done : List RowD) : List SV := (L.map (layPart done)).flatten
def layC (L : List Lay) (done : List RowD) : List Cell := (layCells L done).map .sv
theorem setCells_mid : ∀ (vs B : List SV) (A C : List Cell), vs.length = B.length → setCells (A ++ (B.map .sv ++ C)) A.length vs = A ++ (vs.map .sv ++ C)
  | [], B, A, C, h => by
    have : B = [] := List.eq_nil_of_length_eq_zero h.symm
    subst this; rfl
  | v :: vs, B, A, C, h => by
    match B, h with
    | b :: B, h =>
      have ih := setCells_mid vs B (A ++ [.sv v]) C (by simpa using h)
      unfold setCells
      rw [show (A ++ ((b :: B).map Cell.sv ++ C)).set A.length (.sv v) = (A ++ [.sv v]) ++ (B.map .sv ++ C) from by
        rw [List.set_append_right _ _ (by omega)]; simp]
      rw [List.length_append, List.length_singleton] at ih
      rw [ih]; simp
theorem rowOf_snoc : ∀ (done : List RowD) (r : RowD) (s : List UInt8), rowOf (done ++ [r]) s = match rowOf done s with | some x => some x | none => if r.name = s then some r else none
  | [], r, s => by
    show rowOf [r] s = _
    unfold rowOf
    split <;> rfl
  | x :: done, r, s => by
    show rowOf (x :: (done ++ [r])) s = _
    unfold rowOf
    split
    · rfl
    · exact rowOf_snoc done r s
theorem layPart_other {done : List RowD} {r : RowD} {p : Lay} (h : r.name ≠ p.label) : layPart (done ++ [r]) p = layPart done p := by
  unfold layPart
  rw [rowOf_snoc]
  cases rowOf done p.label with
  | some x => rfl
  | none => simp only; rw [if_neg h]
theorem layCells_other {L : List Lay} {done : List RowD} {r : RowD} (h : ∀ q ∈ L, r.name ≠ q.label) : layCells L (done ++ [r]) = layCells L done := by
  unfold layCells
  congr 1
  exact List.map_congr_left fun q hq => layPart_other (h q hq)
theorem lay_step {pre post : List Lay} {p : Lay} {done : List RowD} {r : RowD} (hn : r.name = p.label) (hno : rowOf done p.label = none) (h1 : ∀ q ∈ pre, r.name ≠ q.label) (h2 : ∀ q ∈ post, r.name ≠ q.label) (hl : (p.vals r.N).length = p.zero.length) :
    layC (pre ++ p :: post) (done ++ [r]) = setCells (layC (pre ++ p :: post) done) (layCells pre done).length (p.vals r.N) := by
  have e0 : ∀ d : List RowD, layC (pre ++ p :: post) d = (layCells pre d).map .sv ++ ((layPart d p).map .sv ++ (layCells post d).map .sv) := fun d => by
    unfold layC layCells
    simp
  have hz : layPart done p = p.zero := by unfold layPart; rw [hno]
  have hv : layPart (done ++ [r]) p = p.vals r.N := by unfold layPart; rw [rowOf_snoc, hno]; simp only; rw [if_pos hn]
  rw [e0, e0, layCells_other h1, layCells_other h2, hz, hv]
  have := setCells_mid (p.vals r.N) p.zero ((layCells pre done).map .sv) ((layCells post done).map .sv) hl
  rw [List.length_map] at this
  exact this.symm
def layGood (L : List Lay) (done : List RowD) : Prop := ∀ q ∈ L, ∀ r ∈ done, r.name = q.label → (q.vals r.N).length = q.zero.length
theorem lay_len {done : List RowD} : ∀ {L : List Lay}, layGood L done → (layCells L done).length = (L.map fun q => q.zero.length).sum
  | [], _ => rfl
  | q :: L, h => by
    have ih := lay_len (L := L) (fun x hx => h x (by simp [hx]))
    unfold layCells at ih ⊢
    simp only [List.map_cons, List.flatten_cons, List.length_append, List.sum_cons, ih]
    have : (layPart done q).length = q.zero.length := by
      unfold layPart
      cases hr : rowOf done q.label with
      | none => rfl
      | some r =>
        obtain ⟨m1, m2⟩ := rowOf_mem hr
        exact h q (by simp) r m1 m2
    omega
def st3099 (C : List Cell) (s t : List UInt8) : SA := { nt := 181, tm := [(5, .ptr 1 0), (4, .ptr 0 0)], lz := none, bx := [.live C, scanBox s t], df := [] }
set_option maxRecDepth 100000 in
set_option maxHeartbeats 16000000 in
theorem line3099_rc (E : Env) (cf : CallF) (m : Nat) (hp88 : E.pure 117 = none) (hp90 : E.pure 119 = none) (h127 : E.pure 152 = some F127) (FP : List SV → Option AV) (p53 : E.pure 153 = some FP) (FQ : List SV → Option AV) (pq : E.pure 167 = some FQ) (C : List Cell) (hC : C.length = 107) (s t line rest : List UInt8)
    (hsc : cf 117 [.ptr 1 0] [.live C, scanBox s t] = some (.sv (.bool true), [.live C, scanBox rest line])) (htx : cf 119 [.ptr 1 0] [.live C, scanBox rest line] = some (.sv (.str line), [.live C, scanBox rest line]))
    (W V us : List SV) (e127 : F127 [.str line] = some (.sv (.sl (.str [114, 99] :: W)))) (hW : 1 ≤ W.length) (hu : ∀ x ∈ W, x.cells.length = 1) (eP : FP [.sl W] = some (.sv (.tup [.sl V, .nilI])))
    (eQ : FQ [.sl V] = some (.sv (.tup [.agg us, .nilI]))) (hul : us.length = 3)  :
    evCA E cf m b3099_0 (st3099 C s t) = some (.normal, st3099 (setCells C 0 us) rest line) := by
  have hu2 : (∀ x : SV, x ∈ W → x.cells.length = 1) = True := eq_true hu
  simp only [SV.cells] at hu2
  have a1 : ¬ ((W.length : Int) + 1 < 2) := by omega
  have a2 : (0 : Int) ≤ (W.length : Int) + 1 := by omega
  have a3 : (1 : Int) ≤ (W.length : Int) + 1 := by omega
  have a4 : 1 ≤ W.length + 1 := by omega
  have htk : W.take W.length = W := List.take_length
  clear hu hW
  simp only [scanBox] at *
  simp [st3099, scanBox, b3099_0, hp88, hp90, hsc, htx, h127, e127, hu2, a1, a2, a3, a4, htk, p53, eP, pq, eQ, hul, hC]
set_option maxRecDepth 100000 in
set_option maxHeartbeats 16000000 in
theorem line3099_fh (E : Env) (cf : CallF) (m : Nat) (hp88 : E.pure 117 = none) (hp90 : E.pure 119 = none) (h127 : E.pure 152 = some F127) (FP : List SV → Option AV) (p53 : E.pure 153 = some FP) (FQ : List SV → Option AV) (pq : E.pure 168 = some FQ) (C : List Cell) (hC : C.length = 107) (s t line rest : List UInt8)
    (hsc : cf 117 [.ptr 1 0] [.live C, scanBox s t] = some (.sv (.bool true), [.live C, scanBox rest line])) (htx : cf 119 [.ptr 1 0] [.live C, scanBox rest line] = some (.sv (.str line), [.live C, scanBox rest line]))
    (W V us : List SV) (e127 : F127 [.str line] = some (.sv (.sl (.str [102, 104] :: W)))) (hW : 1 ≤ W.length) (hu : ∀ x ∈ W, x.cells.length = 1) (eP : FP [.sl W] = some (.sv (.tup [.sl V, .nilI])))
    (eQ : FQ [.sl V] = some (.sv (.tup [.agg us, .nilI]))) (hul : us.length = 5)  :
    evCA E cf m b3099_0 (st3099 C s t) = some (.normal, st3099 (setCells C 3 us) rest line) := by
  have hu2 : (∀ x : SV, x ∈ W → x.cells.length = 1) = True := eq_true hu
  simp only [SV.cells] at hu2
  have a1 : ¬ ((W.length : Int) + 1 < 2) := by omega
  have a2 : (0 : Int) ≤ (W.length : Int) + 1 := by omega
  have a3 : (1 : Int) ≤ (W.length : Int) + 1 := by omega
  have a4 : 1 ≤ W.length + 1 := by omega
  have htk : W.take W.length = W := List.take_length
  clear hu hW
  simp only [scanBox] at *
  simp [st3099, scanBox, b3099_0, hp88, hp90, hsc, htx, h127, e127, hu2, a1, a2, a3, a4, htk, p53, eP, pq, eQ, hul, hC]
set_option maxRecDepth 100000 in
set_option maxHeartbeats 16000000 in
theorem line3099_io (E : Env) (cf : CallF) (m : Nat) (hp88 : E.pure 117 = none) (hp90 : E.pure 119 = none) (h127 : E.pure 152 = some F127) (FP : List SV → Option AV) (p53 : E.pure 153 = some FP) (FQ : List SV → Option AV) (pq : E.pure 169 = some FQ) (C : List Cell) (hC : C.length = 107) (s t line rest : List UInt8)
    (hsc : cf 117 [.ptr 1 0] [.live C, scanBox s t] = some (.sv (.bool true), [.live C, scanBox rest line])) (htx : cf 119 [.ptr 1 0] [.live C, scanBox rest line] = some (.sv (.str line), [.live C, scanBox rest line]))
    (W V us : List SV) (e127 : F127 [.str line] = some (.sv (.sl (.str [105, 111] :: W)))) (hW : 1 ≤ W.length) (hu : ∀ x ∈ W, x.cells.length = 1) (eP : FP [.sl W] = some (.sv (.tup [.sl V, .nilI])))
    (eQ : FQ [.sl V] = some (.sv (.tup [.agg us, .nilI]))) (hul : us.length = 2)  :
    evCA E cf m b3099_0 (st3099 C s t) = some (.normal, st3099 (setCells C 8 us) rest line) := by
  have hu2 : (∀ x : SV, x ∈ W → x.cells.length = 1) = True := eq_true hu
  simp only [SV.cells] at hu2
  have a1 : ¬ ((W.length : Int) + 1 < 2) := by omega
  have a2 : (0 : Int) ≤ (W.length : Int) + 1 := by omega
  have a3 : (1 : Int) ≤ (W.length : Int) + 1 := by omega
  have a4 : 1 ≤ W.length + 1 := by omega
  have htk : W.take W.length = W := List.take_length
  clear hu hW
  simp only [scanBox] at *
  simp [st3099, scanBox, b3099_0, hp88, hp90, hsc, htx, h127, e127, hu2, a1, a2, a3, a4, htk, p53, eP, pq, eQ, hul, hC]
set_option maxRecDepth 100000 in
set_option maxHeartbeats 16000000 in
theorem line3099_th (E : Env) (cf : CallF) (m : Nat) (hp88 : E.pure 117 = none) (hp90 : E.pure 119 = none) (h127 : E.pure 152 = some F127) (FP : List SV → Option AV) (p53 : E.pure 153 = some FP) (FQ : List SV → Option AV) (pq : E.pure 170 = some FQ) (C : List Cell) (hC : C.length = 107) (s t line rest : List UInt8)
    (hsc : cf 117 [.ptr 1 0] [.live C, scanBox s t] = some (.sv (.bool true), [.live C, scanBox rest line])) (htx : cf 119 [.ptr 1 0] [.live C, scanBox rest line] = some (.sv (.str line), [.live C, scanBox rest line]))
    (W V us : List SV) (e127 : F127 [.str line] = some (.sv (.sl (.str [116, 104] :: W)))) (hW : 2 ≤ W.length) (hu : ∀ x ∈ W, x.cells.length = 1) (W2 : List SV) (hW2 : W.take 2 = W2) (eP : FP [.sl W2] = some (.sv (.tup [.sl V, .nilI])))
    (eQ : FQ [.sl V] = some (.sv (.tup [.agg us, .nilI]))) (hul : us.length = 2)  :
    evCA E cf m b3099_0 (st3099 C s t) = some (.normal, st3099 (setCells C 10 us) rest line) := by
  have hu2 : (∀ x : SV, x ∈ W → x.cells.length = 1) = True := eq_true hu
  simp only [SV.cells] at hu2
  have a1 : ¬ ((W.length : Int) + 1 < 2) := by omega
  have a2 : (0 : Int) ≤ (W.length : Int) + 1 := by omega
  have a3 : (1 : Int) ≤ (W.length : Int) + 1 := by omega
  have a4 : 1 ≤ W.length + 1 := by omega
  have htk : W.take W.length = W := List.take_length
  have b1 : ¬ ((W.length : Int) + 1 < 3) := by omega
  have b2 : (3 : Int) ≤ (W.length : Int) + 1 := by omega
  have b3 : 3 ≤ W.length + 1 := by omega
  clear hu hW
  simp only [scanBox] at *
  simp [st3099, scanBox, b3099_0, hp88, hp90, hsc, htx, h127, e127, hu2, a1, a2, a3, a4, htk, b1, b2, b3, hW2, p53, eP, pq, eQ, hul, hC]
set_option maxRecDepth 100000 in
set_option maxHeartbeats 16000000 in
theorem line3099_ra (E : Env) (cf : CallF) (m : Nat) (hp88 : E.pure 117 = none) (hp90 : E.pure 119 = none) (h127 : E.pure 152 = some F127) (FP : List SV → Option AV) (p53 : E.pure 153 = some FP) (FQ : List SV → Option AV) (pq : E.pure 171 = some FQ) (C : List Cell) (hC : C.length = 107) (s t line rest : List UInt8)
    (hsc : cf 117 [.ptr 1 0] [.live C, scanBox s t] = some (.sv (.bool true), [.live C, scanBox rest line])) (htx : cf 119 [.ptr 1 0] [.live C, scanBox rest line] = some (.sv (.str line), [.live C, scanBox rest line]))
    (W V us : List SV) (e127 : F127 [.str line] = some (.sv (.sl (.str [114, 97] :: W)))) (hW : 1 ≤ W.length) (hu : ∀ x ∈ W, x.cells.length = 1) (eP : FP [.sl W] = some (.sv (.tup [.sl V, .nilI])))
    (eQ : FQ [.sl V] = some (.sv (.tup [.agg us, .nilI]))) (hul : us.length = 3)  :
    evCA E cf m b3099_0 (st3099 C s t) = some (.normal, st3099 (setCells C 12 us) rest line) := by
  have hu2 : (∀ x : SV, x ∈ W → x.cells.length = 1) = True := eq_true hu
  simp only [SV.cells] at hu2
  have a1 : ¬ ((W.length : Int) + 1 < 2) := by omega
  have a2 : (0 : Int) ≤ (W.length : Int) + 1 := by omega
  have a3 : (1 : Int) ≤ (W.length : Int) + 1 := by omega
  have a4 : 1 ≤ W.length + 1 := by omega
  have htk : W.take W.length = W := List.take_length
  clear hu hW
  simp only [scanBox] at *
  simp [st3099, scanBox, b3099_0, hp88, hp90, hsc, htx, h127, e127, hu2, a1, a2, a3, a4, htk, p53, eP, pq, eQ, hul, hC]
set_option maxRecDepth 100000 in
set_option maxHeartbeats 16000000 in
theorem line3099_net (E : Env) (cf : CallF) (m : Nat) (hp88 : E.pure 117 = none) (hp90 : E.pure 119 = none) (h127 : E.pure 152 = some F127) (FP : List SV → Option AV) (p53 : E.pure 153 = some FP) (FQ : List SV → Option AV) (pq : E.pure 154 = some FQ) (C : List Cell) (hC : C.length = 107) (s t line rest : List UInt8)
    (hsc : cf 117 [.ptr 1 0] [.live C, scanBox s t] = some (.sv (.bool true), [.live C, scanBox rest line])) (htx : cf 119 [.ptr 1 0] [.live C, scanBox rest line] = some (.sv (.str line), [.live C, scanBox rest line]))
    (W V us : List SV) (e127 : F127 [.str line] = some (.sv (.sl (.str [110, 101, 116] :: W)))) (hW : 1 ≤ W.length) (hu : ∀ x ∈ W, x.cells.length = 1) (eP : FP [.sl W] = some (.sv (.tup [.sl V, .nilI])))
    (eQ : FQ [.sl V] = some (.sv (.tup [.agg us, .nilI]))) (hul : us.length = 4)  :
    evCA E cf m b3099_0 (st3099 C s t) = some (.normal, st3099 (setCells C 15 us) rest line) := by
  have hu2 : (∀ x : SV, x ∈ W → x.cells.length = 1) = True := eq_true hu
  simp only [SV.cells] at hu2
  have a1 : ¬ ((W.length : Int) + 1 < 2) := by omega
  have a2 : (0 : Int) ≤ (W.length : Int) + 1 := by omega
  have a3 : (1 : Int) ≤ (W.length : Int) + 1 := by omega
  have a4 : 1 ≤ W.length + 1 := by omega
  have htk : W.take W.length = W := List.take_length
  clear hu hW
  simp only [scanBox] at *
  simp [st3099, scanBox, b3099_0, hp88, hp90, hsc, htx, h127, e127, hu2, a1, a2, a3, a4, htk, p53, eP, pq, eQ, hul, hC]
set_option maxRecDepth 100000 in
set_option maxHeartbeats 16000000 in
theorem line3099_rpc (E : Env) (cf : CallF) (m : Nat) (hp88 : E.pure 117 = none) (hp90 : E.pure 119 = none) (h127 : E.pure 152 = some F127) (FP : List SV → Option AV) (p53 : E.pure 153 = some FP) (FQ : List SV → Option AV) (pq : E.pure 172 = some FQ) (C : List Cell) (hC : C.length = 107) (s t line rest : List UInt8)
    (hsc : cf 117 [.ptr 1 0] [.live C, scanBox s t] = some (.sv (.bool true), [.live C, scanBox rest line])) (htx : cf 119 [.ptr 1 0] [.live C, scanBox rest line] = some (.sv (.str line), [.live C, scanBox rest line]))
    (W V us : List SV) (e127 : F127 [.str line] = some (.sv (.sl (.str [114, 112, 99] :: W)))) (hW : 1 ≤ W.length) (hu : ∀ x ∈ W, x.cells.length = 1) (eP : FP [.sl W] = some (.sv (.tup [.sl V, .nilI])))
    (eQ : FQ [.sl V] = some (.sv (.tup [.agg us, .nilI]))) (hul : us.length = 5)  :
    evCA E cf m b3099_0 (st3099 C s t) = some (.normal, st3099 (setCells C 19 us) rest line) := by
  have hu2 : (∀ x : SV, x ∈ W → x.cells.length = 1) = True := eq_true hu
  simp only [SV.cells] at hu2
  have a1 : ¬ ((W.length : Int) + 1 < 2) := by omega
  have a2 : (0 : Int) ≤ (W.length : Int) + 1 := by omega
  have a3 : (1 : Int) ≤ (W.length : Int) + 1 := by omega
  have a4 : 1 ≤ W.length + 1 := by omega
  have htk : W.take W.length = W := List.take_length
  clear hu hW
  simp only [scanBox] at *
  simp [st3099, scanBox, b3099_0, hp88, hp90, hsc, htx, h127, e127, hu2, a1, a2, a3, a4, htk, p53, eP, pq, eQ, hul, hC]
set_option maxRecDepth 100000 in
set_option maxHeartbeats 16000000 in
theorem line3099_proc2 (E : Env) (cf : CallF) (m : Nat) (hp88 : E.pure 117 = none) (hp90 : E.pure 119 = none) (h127 : E.pure 152 = some F127) (FP : List SV → Option AV) (p53 : E.pure 153 = some FP) (FQ : List SV → Option AV) (pq : E.pure 156 = some FQ) (C : List Cell) (hC : C.length = 107) (s t line rest : List UInt8)
    (hsc : cf 117 [.ptr 1 0] [.live C, scanBox s t] = some (.sv (.bool true), [.live C, scanBox rest line])) (htx : cf 119 [.ptr 1 0] [.live C, scanBox rest line] = some (.sv (.str line), [.live C, scanBox rest line]))
    (W V us : List SV) (e127 : F127 [.str line] = some (.sv (.sl (.str [112, 114, 111, 99, 50] :: W)))) (hW : 1 ≤ W.length) (hu : ∀ x ∈ W, x.cells.length = 1) (eP : FP [.sl W] = some (.sv (.tup [.sl V, .nilI])))
    (eQ : FQ [.sl V] = some (.sv (.tup [.agg us, .nilI]))) (hul : us.length = 18)  :
    evCA E cf m b3099_0 (st3099 C s t) = some (.normal, st3099 (setCells C 24 us) rest line) := by
  have hu2 : (∀ x : SV, x ∈ W → x.cells.length = 1) = True := eq_true hu
  simp only [SV.cells] at hu2
  have a1 : ¬ ((W.length : Int) + 1 < 2) := by omega
  have a2 : (0 : Int) ≤ (W.length : Int) + 1 := by omega
  have a3 : (1 : Int) ≤ (W.length : Int) + 1 := by omega
  have a4 : 1 ≤ W.length + 1 := by omega
  have htk : W.take W.length = W := List.take_length
  clear hu hW
  simp only [scanBox] at *
  simp [st3099, scanBox, b3099_0, hp88, hp90, hsc, htx, h127, e127, hu2, a1, a2, a3, a4, htk, p53, eP, pq, eQ, hul, hC]
set_option maxRecDepth 100000 in
set_option maxHeartbeats 16000000 in
theorem line3099_proc3 (E : Env) (cf : CallF) (m : Nat) (hp88 : E.pure 117 = none) (hp90 : E.pure 119 = none) (h127 : E.pure 152 = some F127) (FP : List SV → Option AV) (p53 : E.pure 153 = some FP) (FQ : List SV → Option AV) (pq : E.pure 157 = some FQ) (C : List Cell) (hC : C.length = 107) (s t line rest : List UInt8)
    (hsc : cf 117 [.ptr 1 0] [.live C, scanBox s t] = some (.sv (.bool true), [.live C, scanBox rest line])) (htx : cf 119 [.ptr 1 0] [.live C, scanBox rest line] = some (.sv (.str line), [.live C, scanBox rest line]))
    (W V us : List SV) (e127 : F127 [.str line] = some (.sv (.sl (.str [112, 114, 111, 99, 51] :: W)))) (hW : 1 ≤ W.length) (hu : ∀ x ∈ W, x.cells.length = 1) (eP : FP [.sl W] = some (.sv (.tup [.sl V, .nilI])))
    (eQ : FQ [.sl V] = some (.sv (.tup [.agg us, .nilI]))) (hul : us.length = 22)  :
    evCA E cf m b3099_0 (st3099 C s t) = some (.normal, st3099 (setCells C 42 us) rest line) := by
  have hu2 : (∀ x : SV, x ∈ W → x.cells.length = 1) = True := eq_true hu
  simp only [SV.cells] at hu2
  have a1 : ¬ ((W.length : Int) + 1 < 2) := by omega
  have a2 : (0 : Int) ≤ (W.length : Int) + 1 := by omega
  have a3 : (1 : Int) ≤ (W.length : Int) + 1 := by omega
  have a4 : 1 ≤ W.length + 1 := by omega
  have htk : W.take W.length = W := List.take_length
  clear hu hW
  simp only [scanBox] at *
  simp [st3099, scanBox, b3099_0, hp88, hp90, hsc, htx, h127, e127, hu2, a1, a2, a3, a4, htk, p53, eP, pq, eQ, hul, hC]
set_option maxRecDepth 100000 in
set_option maxHeartbeats 16000000 in
theorem line3099_proc4 (E : Env) (cf : CallF) (m : Nat) (hp88 : E.pure 117 = none) (hp90 : E.pure 119 = none) (h127 : E.pure 152 = some F127) (FP : List SV → Option AV) (p53 : E.pure 153 = some FP) (FQ : List SV → Option AV) (pq : E.pure 173 = some FQ) (C : List Cell) (hC : C.length = 107) (s t line rest : List UInt8)
    (hsc : cf 117 [.ptr 1 0] [.live C, scanBox s t] = some (.sv (.bool true), [.live C, scanBox rest line])) (htx : cf 119 [.ptr 1 0] [.live C, scanBox rest line] = some (.sv (.str line), [.live C, scanBox rest line]))
    (W V us : List SV) (e127 : F127 [.str line] = some (.sv (.sl (.str [112, 114, 111, 99, 52] :: W)))) (hW : 1 ≤ W.length) (hu : ∀ x ∈ W, x.cells.length = 1) (eP : FP [.sl W] = some (.sv (.tup [.sl V, .nilI])))
    (eQ : FQ [.sl V] = some (.sv (.tup [.agg us, .nilI]))) (hul : us.length = 2)  :
    evCA E cf m b3099_0 (st3099 C s t) = some (.normal, st3099 (setCells C 64 us) rest line) := by
  have hu2 : (∀ x : SV, x ∈ W → x.cells.length = 1) = True := eq_true hu
  simp only [SV.cells] at hu2
  have a1 : ¬ ((W.length : Int) + 1 < 2) := by omega
  have a2 : (0 : Int) ≤ (W.length : Int) + 1 := by omega
  have a3 : (1 : Int) ≤ (W.length : Int) + 1 := by omega
  have a4 : 1 ≤ W.length + 1 := by omega
  have htk : W.take W.length = W := List.take_length
  clear hu hW
  simp only [scanBox] at *
  simp [st3099, scanBox, b3099_0, hp88, hp90, hsc, htx, h127, e127, hu2, a1, a2, a3, a4, htk, p53, eP, pq, eQ, hul, hC]
set_option maxRecDepth 100000 in
set_option maxHeartbeats 16000000 in
theorem line3099_proc4ops (E : Env) (cf : CallF) (m : Nat) (hp88 : E.pure 117 = none) (hp90 : E.pure 119 = none) (h127 : E.pure 152 = some F127) (FP : List SV → Option AV) (p53 : E.pure 153 = some FP) (FQ : List SV → Option AV) (pq : E.pure 174 = some FQ) (C : List Cell) (hC : C.length = 107) (s t line rest : List UInt8)
    (hsc : cf 117 [.ptr 1 0] [.live C, scanBox s t] = some (.sv (.bool true), [.live C, scanBox rest line])) (htx : cf 119 [.ptr 1 0] [.live C, scanBox rest line] = some (.sv (.str line), [.live C, scanBox rest line]))
    (W V us : List SV) (e127 : F127 [.str line] = some (.sv (.sl (.str [112, 114, 111, 99, 52, 111, 112, 115] :: W)))) (hW : 1 ≤ W.length) (hu : ∀ x ∈ W, x.cells.length = 1) (eP : FP [.sl W] = some (.sv (.tup [.sl V, .nilI])))
    (eQ : FQ [.sl V] = some (.sv (.tup [.agg us, .nilI]))) (hul : us.length = 40)  :
    evCA E cf m b3099_0 (st3099 C s t) = some (.normal, st3099 (setCells C 66 us) rest line) := by
  have hu2 : (∀ x : SV, x ∈ W → x.cells.length = 1) = True := eq_true hu
  simp only [SV.cells] at hu2
  have a1 : ¬ ((W.length : Int) + 1 < 2) := by omega
  have a2 : (0 : Int) ≤ (W.length : Int) + 1 := by omega
  have a3 : (1 : Int) ≤ (W.length : Int) + 1 := by omega
  have a4 : 1 ≤ W.length + 1 := by omega
  have htk : W.take W.length = W := List.take_length
  clear hu hW
  simp only [scanBox] at *
  simp [st3099, scanBox, b3099_0, hp88, hp90, hsc, htx, h127, e127, hu2, a1, a2, a3, a4, htk, p53, eP, pq, eQ, hul, hC]
set_option maxRecDepth 100000 in
set_option maxHeartbeats 16000000 in
theorem line3099_wdeleg_getattr (E : Env) (cf : CallF) (m : Nat) (hp88 : E.pure 117 = none) (hp90 : E.pure 119 = none) (h127 : E.pure 152 = some F127) (FP : List SV → Option AV) (p53 : E.pure 153 = some FP) (C : List Cell) (hC : C.length = 107) (s t line rest : List UInt8)
    (hsc : cf 117 [.ptr 1 0] [.live C, scanBox s t] = some (.sv (.bool true), [.live C, scanBox rest line])) (htx : cf 119 [.ptr 1 0] [.live C, scanBox rest line] = some (.sv (.str line), [.live C, scanBox rest line]))
    (W V us : List SV) (e127 : F127 [.str line] = some (.sv (.sl (.str [119, 100, 101, 108, 101, 103, 95, 103, 101, 116, 97, 116, 116, 114] :: W)))) (hW : 1 ≤ W.length) (hu : ∀ x ∈ W, x.cells.length = 1) (eP : FP [.sl W] = some (.sv (.tup [.sl V, .nilI])))
    (n : Int) (hV : V = [.int .u64 n]) (hus : us = [.int .u64 n]) :
    evCA E cf m b3099_0 (st3099 C s t) = some (.normal, st3099 (setCells C 106 us) rest line) := by
  have hu2 : (∀ x : SV, x ∈ W → x.cells.length = 1) = True := eq_true hu
  simp only [SV.cells] at hu2
  have a1 : ¬ ((W.length : Int) + 1 < 2) := by omega
  have a2 : (0 : Int) ≤ (W.length : Int) + 1 := by omega
  have a3 : (1 : Int) ≤ (W.length : Int) + 1 := by omega
  have a4 : 1 ≤ W.length + 1 := by omega
  have htk : W.take W.length = W := List.take_length
  subst hV
  subst hus
  clear hu hW
  simp only [scanBox] at *
  simp [st3099, scanBox, b3099_0, hp88, hp90, hsc, htx, h127, e127, hu2, a1, a2, a3, a4, htk, p53, eP, setCells, hC]
end Go.Ev

set_option linter.unusedSimpArgs false
set_option linter.unusedVariables false
namespace Go.Ev
open Go.Proofs
theorem srv_names {s : List UInt8} {k : Nat} (h : nfWant nfSrv s k = some k) : (s = [114, 99] ∧ k = 3) ∨ (s = [102, 104] ∧ k = 5) ∨ (s = [105, 111] ∧ k = 2) ∨ (s = [116, 104] ∧ k = 2) ∨ (s = [114, 97] ∧ k = 12) ∨ (s = [110, 101, 116] ∧ k = 4) ∨ (s = [114, 112, 99] ∧ k = 5) ∨ (s = [112, 114, 111, 99, 50] ∧ k = 18) ∨ (s = [112, 114, 111, 99, 51] ∧ k = 22) ∨ (s = [112, 114, 111, 99, 52] ∧ k = 2) ∨ (s = [112, 114, 111, 99, 52, 111, 112, 115] ∧ 40 ≤ k) ∨ (s = [119, 100, 101, 108, 101, 103, 95, 103, 101, 116, 97, 116, 116, 114] ∧ k = 1) := by
  unfold nfWant at h
  by_cases hw : s = sWd
  · rw [if_pos hw] at h
    have hr : (grpOf nfSrv sRc).isSome = true := rfl
    rw [hr] at h
    simp only [if_true, Option.some.injEq] at h
    exact (.inr (.inr (.inr (.inr (.inr (.inr (.inr (.inr (.inr (.inr (.inr ⟨hw, h.symm⟩)))))))))))
  · rw [if_neg hw] at h
    cases hg : grpOf nfSrv s with
    | none => rw [hg] at h; cases h
    | some g =>
      rw [hg] at h
      simp only [Option.some.injEq] at h
      obtain ⟨m1, m2⟩ := grpOf_mem hg
      subst m2
      simp only [nfSrv, List.mem_cons, List.not_mem_nil, or_false] at m1
      rcases m1 with rfl | rfl | rfl | rfl | rfl | rfl | rfl | rfl | rfl | rfl | rfl
      · rw [if_neg (by decide), if_neg (by decide)] at h
        exact (.inl ⟨rfl, h.symm⟩)
      · rw [if_neg (by decide), if_neg (by decide)] at h
        exact (.inr (.inl ⟨rfl, h.symm⟩))
      · rw [if_neg (by decide), if_neg (by decide)] at h
        exact (.inr (.inr (.inl ⟨rfl, h.symm⟩)))
      · rw [if_neg (by decide), if_neg (by decide)] at h
        exact (.inr (.inr (.inr (.inl ⟨rfl, h.symm⟩))))
      · rw [if_pos (by rfl)] at h
        exact (.inr (.inr (.inr (.inr (.inl ⟨rfl, h.symm⟩)))))
      · rw [if_neg (by decide), if_neg (by decide)] at h
        exact (.inr (.inr (.inr (.inr (.inr (.inl ⟨rfl, h.symm⟩))))))
      · rw [if_neg (by decide), if_neg (by decide)] at h
        exact (.inr (.inr (.inr (.inr (.inr (.inr (.inl ⟨rfl, h.symm⟩)))))))
      · rw [if_neg (by decide), if_neg (by decide)] at h
        exact (.inr (.inr (.inr (.inr (.inr (.inr (.inr (.inl ⟨rfl, h.symm⟩))))))))
      · rw [if_neg (by decide), if_neg (by decide)] at h
        exact (.inr (.inr (.inr (.inr (.inr (.inr (.inr (.inr (.inl ⟨rfl, h.symm⟩)))))))))
      · rw [if_neg (by decide), if_neg (by decide)] at h
        exact (.inr (.inr (.inr (.inr (.inr (.inr (.inr (.inr (.inr (.inl ⟨rfl, h.symm⟩))))))))))
      · rw [if_neg (by decide), if_pos (by rfl)] at h
        exact (.inr (.inr (.inr (.inr (.inr (.inr (.inr (.inr (.inr (.inr (.inl ⟨rfl, by have h40 : nf_v4Ops.length = 40 := rfl; simp only [h40] at h; omega⟩)))))))))))
theorem srvGood {done : List RowD} (h : ∀ r ∈ done, nfOk1 nfSrv r = true) : layGood srvLay done := by
  intro q hq r hr he
  have hw := srv_names (nfOk1_want (h r hr)).1
  rw [he] at hw
  simp only [srvLay, List.mem_cons, List.not_mem_nil, or_false] at hq
  rcases hq with rfl | rfl | rfl | rfl | rfl | rfl | rfl | rfl | rfl | rfl | rfl | rfl
  · have hk : r.N.length = 3 := by simpa using hw
    show (u64s r.N).length = _
    rw [u64s_length, hk]; rfl
  · have hk : r.N.length = 5 := by simpa using hw
    show (u64s r.N).length = _
    rw [u64s_length, hk]; rfl
  · have hk : r.N.length = 2 := by simpa using hw
    show (u64s r.N).length = _
    rw [u64s_length, hk]; rfl
  · have hk : r.N.length = 2 := by simpa using hw
    show (u64s r.N).length = _
    rw [u64s_length, hk]; rfl
  · have hk : r.N.length = 12 := by simpa using hw
    rfl
  · have hk : r.N.length = 4 := by simpa using hw
    show (u64s r.N).length = _
    rw [u64s_length, hk]; rfl
  · have hk : r.N.length = 5 := by simpa using hw
    show (u64s r.N).length = _
    rw [u64s_length, hk]; rfl
  · have hk : r.N.length = 18 := by simpa using hw
    show (u64s r.N).length = _
    rw [u64s_length, hk]; rfl
  · have hk : r.N.length = 22 := by simpa using hw
    show (u64s r.N).length = _
    rw [u64s_length, hk]; rfl
  · have hk : r.N.length = 2 := by simpa using hw
    show (u64s r.N).length = _
    rw [u64s_length, hk]; rfl
  · have hk : 40 ≤ r.N.length := by simpa using hw
    show (u64s (r.N.take 40)).length = _
    rw [u64s_length, List.length_take]
    simp only [zeros, List.length_replicate]
    omega
  · have hk : r.N.length = 1 := by simpa using hw
    show (u64s r.N).length = _
    rw [u64s_length, hk]; rfl
structure SvH (E : Env) : Prop where
  h3167 : Has E 167 S3167
  h3168 : Has E 168 S3168
  h3169 : Has E 169 S3169
  h3170 : Has E 170 S3170
  h3171 : Has E 171 S3171
  h3154 : Has E 154 S3154
  h3172 : Has E 172 S3172
  h3156 : Has E 156 S3156
  h3157 : Has E 157 S3157
  h3173 : Has E 173 S3173
  h3174 : Has E 174 S3174
  h53 : Has E 153 S3153
  h127 : E.pure 152 = some F127
  h88 : E.code 117 = some c88
  h90 : E.code 119 = some c90
  hp88 : E.pure 117 = none
  hp90 : E.pure 119 = none
theorem strs_cells (l : List (List UInt8)) : ∀ x ∈ strs l, x.cells.length = 1 := fun x hx => by
  obtain ⟨y, _, rfl⟩ := List.mem_map.1 hx
  rfl
theorem rowOf_none {done : List RowD} {s : List UInt8} (h : ∀ r ∈ done, r.name ≠ s) : rowOf done s = none := by
  cases hv : rowOf done s with
  | none => rfl
  | some r =>
    obtain ⟨m1, m2⟩ := rowOf_mem hv
    exact absurd m2 (h r m1)
set_option maxRecDepth 100000 in
set_option maxHeartbeats 4000000 in
theorem step3099 (E : Env) (H : SvH E) (N m : Nat) (done : List RowD) (r : RowD) (hd : ∀ q ∈ done, nfOk1 nfSrv q = true) (ho : nfOk1 nfSrv r = true) (hf : r.fits3) (hnd : ∀ q ∈ done, q.name ≠ r.name) (more t : List UInt8) (hl : (nfBody r ++ 10 :: more).length ≤ 40000) (hN : (nfBody r ++ 10 :: more).length < N) :
    evCA E (evF E (N + 1)) m b3099_0 (st3099 (layC srvLay done) (nfBody r ++ 10 :: more) t) = some (.normal, st3099 (layC srvLay (done ++ [r])) more (nfBody r)) := by
  obtain ⟨⟨Q0, q0, z0⟩, ⟨Q1, q1, z1⟩, ⟨Q2, q2, z2⟩, ⟨Q3, q3, z3⟩, ⟨Q4, q4, z4⟩, ⟨Q5, q5, z5⟩, ⟨Q6, q6, z6⟩, ⟨Q7, q7, z7⟩, ⟨Q8, q8, z8⟩, ⟨Q9, q9, z9⟩, ⟨Q10, q10, z10⟩, ⟨FP, p53, s53⟩, h127, h88, h90, hp88, hp90⟩ := H
  have hgood := srvGood hd
  have hch := nfBody_chars nfSrv_labs ho
  simp only [List.length_append, List.length_cons] at hl hN
  have hC : (layC srvLay done).length = 107 := by
    unfold layC
    rw [List.length_map, lay_len hgood]
    rfl
  have hsc := scan88 E h88 1 [.live (layC srvLay done), scanBox (nfBody r ++ 10 :: more) t] (nfBody r) more t rfl (by omega) (by omega) (fun c hc => ⟨(hch c hc).1, (plain_lt (hch c hc).2).2⟩) N (by omega)
  have htx := evF90 E h90 N 1 [.live (layC srvLay done), scanBox more (nfBody r)] more (nfBody r) rfl
  have e127 := nfBody_words nfSrv_labs ho (by omega)
  have hnw := srv_names (nfOk1_want ho).1
  have hno := rowOf_none hnd
  obtain ⟨nm, NN, SS⟩ := r
  obtain ⟨f1, f2, f3, f4, f5⟩ := hf
  simp only [strs, List.map_cons] at e127
  rw [show (nfWords ⟨nm, NN, SS⟩).map SV.str = strs (nfWords ⟨nm, NN, SS⟩) from rfl] at e127
  have hcu := strs_cells (nfWords ⟨nm, NN, SS⟩)
  simp only at hnw hno f2 f3
  rcases hnw with ⟨rfl, hk⟩ | ⟨rfl, hk⟩ | ⟨rfl, hk⟩ | ⟨rfl, hk⟩ | ⟨rfl, hk⟩ | ⟨rfl, hk⟩ | ⟨rfl, hk⟩ | ⟨rfl, hk⟩ | ⟨rfl, hk⟩ | ⟨rfl, hk⟩ | ⟨rfl, hk⟩ | ⟨rfl, hk⟩
  · -- rc
    have hwd : nfWords ⟨[114, 99], NN, SS⟩ = NN.map decS := by
      unfold nfWords
      rw [if_neg (by decide : ¬ isProc [114, 99] = true), if_neg (by decide : ¬ ([114, 99] : List UInt8) = sTh)]
      simp
    rw [hwd] at e127 hcu
    have eP := s53 NN (by omega) f3
    have eQ := z0 NN hk
    have hst := line3099_rc E (evF E (N + 1)) m hp88 hp90 h127 FP p53 Q0 q0 (layC srvLay done) hC _ t (nfBody ⟨[114, 99], NN, SS⟩) more hsc htx (strs (NN.map decS)) _ (u64s NN) e127 (by rw [strs_length]; simp; try omega) hcu eP eQ (by rw [u64s_length, hk])
    have hls : layC srvLay (done ++ [⟨[114, 99], NN, SS⟩]) = setCells (layC srvLay done) 0 (u64s NN) := by
      have e := lay_step (pre := srvLay.take 0) (post := srvLay.drop 1) (p := ⟨[114, 99], u64s, zeros 3⟩) (done := done) (r := ⟨[114, 99], NN, SS⟩) rfl hno (by show ∀ q ∈ srvLay.take 0, [114, 99] ≠ q.label; decide) (by show ∀ q ∈ srvLay.drop 1, [114, 99] ≠ q.label; decide) (by show (u64s NN).length = (zeros 3).length; rw [u64s_length, hk]; rfl)
      rw [lay_len (L := srvLay.take 0) (fun q hq => hgood q (List.mem_of_mem_take hq))] at e
      exact e
    rw [hls]
    exact hst
  · -- fh
    have hwd : nfWords ⟨[102, 104], NN, SS⟩ = NN.map decS := by
      unfold nfWords
      rw [if_neg (by decide : ¬ isProc [102, 104] = true), if_neg (by decide : ¬ ([102, 104] : List UInt8) = sTh)]
      simp
    rw [hwd] at e127 hcu
    have eP := s53 NN (by omega) f3
    have eQ := z1 NN hk
    have hst := line3099_fh E (evF E (N + 1)) m hp88 hp90 h127 FP p53 Q1 q1 (layC srvLay done) hC _ t (nfBody ⟨[102, 104], NN, SS⟩) more hsc htx (strs (NN.map decS)) _ (u64s NN) e127 (by rw [strs_length]; simp; try omega) hcu eP eQ (by rw [u64s_length, hk])
    have hls : layC srvLay (done ++ [⟨[102, 104], NN, SS⟩]) = setCells (layC srvLay done) 3 (u64s NN) := by
      have e := lay_step (pre := srvLay.take 1) (post := srvLay.drop 2) (p := ⟨[102, 104], u64s, zeros 5⟩) (done := done) (r := ⟨[102, 104], NN, SS⟩) rfl hno (by show ∀ q ∈ srvLay.take 1, [102, 104] ≠ q.label; decide) (by show ∀ q ∈ srvLay.drop 2, [102, 104] ≠ q.label; decide) (by show (u64s NN).length = (zeros 5).length; rw [u64s_length, hk]; rfl)
      rw [lay_len (L := srvLay.take 1) (fun q hq => hgood q (List.mem_of_mem_take hq))] at e
      exact e
    rw [hls]
    exact hst
  · -- io
    have hwd : nfWords ⟨[105, 111], NN, SS⟩ = NN.map decS := by
      unfold nfWords
      rw [if_neg (by decide : ¬ isProc [105, 111] = true), if_neg (by decide : ¬ ([105, 111] : List UInt8) = sTh)]
      simp
    rw [hwd] at e127 hcu
    have eP := s53 NN (by omega) f3
    have eQ := z2 NN hk
    have hst := line3099_io E (evF E (N + 1)) m hp88 hp90 h127 FP p53 Q2 q2 (layC srvLay done) hC _ t (nfBody ⟨[105, 111], NN, SS⟩) more hsc htx (strs (NN.map decS)) _ (u64s NN) e127 (by rw [strs_length]; simp; try omega) hcu eP eQ (by rw [u64s_length, hk])
    have hls : layC srvLay (done ++ [⟨[105, 111], NN, SS⟩]) = setCells (layC srvLay done) 8 (u64s NN) := by
      have e := lay_step (pre := srvLay.take 2) (post := srvLay.drop 3) (p := ⟨[105, 111], u64s, zeros 2⟩) (done := done) (r := ⟨[105, 111], NN, SS⟩) rfl hno (by show ∀ q ∈ srvLay.take 2, [105, 111] ≠ q.label; decide) (by show ∀ q ∈ srvLay.drop 3, [105, 111] ≠ q.label; decide) (by show (u64s NN).length = (zeros 2).length; rw [u64s_length, hk]; rfl)
      rw [lay_len (L := srvLay.take 2) (fun q hq => hgood q (List.mem_of_mem_take hq))] at e
      exact e
    rw [hls]
    exact hst
  · -- th
    have hwd : nfWords ⟨[116, 104], NN, SS⟩ = NN.map decS ++ List.replicate 10 nought3 := by
      unfold nfWords
      rw [if_neg (by decide : ¬ isProc [116, 104] = true), if_pos (by decide : ([116, 104] : List UInt8) = sTh)]
      simp
    rw [hwd] at e127 hcu
    have eP := s53 NN (by omega) f3
    have eQ := z3 NN hk
    have hst := line3099_th E (evF E (N + 1)) m hp88 hp90 h127 FP p53 Q3 q3 (layC srvLay done) hC _ t (nfBody ⟨[116, 104], NN, SS⟩) more hsc htx (strs (NN.map decS ++ List.replicate 10 nought3)) _ (u64s NN) e127 (by rw [strs_length]; simp; try omega) hcu (strs (NN.map decS)) (by
      unfold strs
      rw [List.map_append, show (2 : Nat) = (List.map SV.str (List.map decS NN)).length from by simp [hk], List.take_left]) eP eQ (by rw [u64s_length, hk])
    have hls : layC srvLay (done ++ [⟨[116, 104], NN, SS⟩]) = setCells (layC srvLay done) 10 (u64s NN) := by
      have e := lay_step (pre := srvLay.take 3) (post := srvLay.drop 4) (p := ⟨[116, 104], u64s, zeros 2⟩) (done := done) (r := ⟨[116, 104], NN, SS⟩) rfl hno (by show ∀ q ∈ srvLay.take 3, [116, 104] ≠ q.label; decide) (by show ∀ q ∈ srvLay.drop 4, [116, 104] ≠ q.label; decide) (by show (u64s NN).length = (zeros 2).length; rw [u64s_length, hk]; rfl)
      rw [lay_len (L := srvLay.take 3) (fun q hq => hgood q (List.mem_of_mem_take hq))] at e
      exact e
    rw [hls]
    exact hst
  · -- ra
    have hwd : nfWords ⟨[114, 97], NN, SS⟩ = NN.map decS := by
      unfold nfWords
      rw [if_neg (by decide : ¬ isProc [114, 97] = true), if_neg (by decide : ¬ ([114, 97] : List UInt8) = sTh)]
      simp
    rw [hwd] at e127 hcu
    have eP := s53 NN (by omega) f3
    have e12 : ∃ a b ns, NN = a :: (ns ++ [b]) ∧ ns.length = 10 := by
      match NN, hk with
      | [x0, x1, x2, x3, x4, x5, x6, x7, x8, x9, x10, x11], _ => exact ⟨x0, x11, [x1, x2, x3, x4, x5, x6, x7, x8, x9, x10], rfl, rfl⟩
    obtain ⟨xa, xb, xn, hNN, hxn⟩ := e12
    have eQ := z4 xa xb xn hxn
    rw [← hNN] at eQ
    have hrv : raVals NN = [.int .u64 (xa : Int), .sl (u64s xn), .int .u64 (xb : Int)] := by
      rw [hNN]
      match xn, hxn with
      | [x1, x2, x3, x4, x5, x6, x7, x8, x9, x10], _ => rfl
    rw [← hrv] at eQ
    have hst := line3099_ra E (evF E (N + 1)) m hp88 hp90 h127 FP p53 Q4 q4 (layC srvLay done) hC _ t (nfBody ⟨[114, 97], NN, SS⟩) more hsc htx (strs (NN.map decS)) _ (raVals NN) e127 (by rw [strs_length]; simp; try omega) hcu eP eQ rfl
    have hls : layC srvLay (done ++ [⟨[114, 97], NN, SS⟩]) = setCells (layC srvLay done) 12 (raVals NN) := by
      have e := lay_step (pre := srvLay.take 4) (post := srvLay.drop 5) (p := ⟨[114, 97], raVals, [.int .u64 0, .nilS, .int .u64 0]⟩) (done := done) (r := ⟨[114, 97], NN, SS⟩) rfl hno (by show ∀ q ∈ srvLay.take 4, [114, 97] ≠ q.label; decide) (by show ∀ q ∈ srvLay.drop 5, [114, 97] ≠ q.label; decide) rfl
      rw [lay_len (L := srvLay.take 4) (fun q hq => hgood q (List.mem_of_mem_take hq))] at e
      exact e
    rw [hls]
    exact hst
  · -- net
    have hwd : nfWords ⟨[110, 101, 116], NN, SS⟩ = NN.map decS := by
      unfold nfWords
      rw [if_neg (by decide : ¬ isProc [110, 101, 116] = true), if_neg (by decide : ¬ ([110, 101, 116] : List UInt8) = sTh)]
      simp
    rw [hwd] at e127 hcu
    have eP := s53 NN (by omega) f3
    have eQ := z5 NN hk
    have hst := line3099_net E (evF E (N + 1)) m hp88 hp90 h127 FP p53 Q5 q5 (layC srvLay done) hC _ t (nfBody ⟨[110, 101, 116], NN, SS⟩) more hsc htx (strs (NN.map decS)) _ (u64s NN) e127 (by rw [strs_length]; simp; try omega) hcu eP eQ (by rw [u64s_length, hk])
    have hls : layC srvLay (done ++ [⟨[110, 101, 116], NN, SS⟩]) = setCells (layC srvLay done) 15 (u64s NN) := by
      have e := lay_step (pre := srvLay.take 5) (post := srvLay.drop 6) (p := ⟨[110, 101, 116], u64s, zeros 4⟩) (done := done) (r := ⟨[110, 101, 116], NN, SS⟩) rfl hno (by show ∀ q ∈ srvLay.take 5, [110, 101, 116] ≠ q.label; decide) (by show ∀ q ∈ srvLay.drop 6, [110, 101, 116] ≠ q.label; decide) (by show (u64s NN).length = (zeros 4).length; rw [u64s_length, hk]; rfl)
      rw [lay_len (L := srvLay.take 5) (fun q hq => hgood q (List.mem_of_mem_take hq))] at e
      exact e
    rw [hls]
    exact hst
  · -- rpc
    have hwd : nfWords ⟨[114, 112, 99], NN, SS⟩ = NN.map decS := by
      unfold nfWords
      rw [if_neg (by decide : ¬ isProc [114, 112, 99] = true), if_neg (by decide : ¬ ([114, 112, 99] : List UInt8) = sTh)]
      simp
    rw [hwd] at e127 hcu
    have eP := s53 NN (by omega) f3
    have eQ := z6 NN hk
    have hst := line3099_rpc E (evF E (N + 1)) m hp88 hp90 h127 FP p53 Q6 q6 (layC srvLay done) hC _ t (nfBody ⟨[114, 112, 99], NN, SS⟩) more hsc htx (strs (NN.map decS)) _ (u64s NN) e127 (by rw [strs_length]; simp; try omega) hcu eP eQ (by rw [u64s_length, hk])
    have hls : layC srvLay (done ++ [⟨[114, 112, 99], NN, SS⟩]) = setCells (layC srvLay done) 19 (u64s NN) := by
      have e := lay_step (pre := srvLay.take 6) (post := srvLay.drop 7) (p := ⟨[114, 112, 99], u64s, zeros 5⟩) (done := done) (r := ⟨[114, 112, 99], NN, SS⟩) rfl hno (by show ∀ q ∈ srvLay.take 6, [114, 112, 99] ≠ q.label; decide) (by show ∀ q ∈ srvLay.drop 7, [114, 112, 99] ≠ q.label; decide) (by show (u64s NN).length = (zeros 5).length; rw [u64s_length, hk]; rfl)
      rw [lay_len (L := srvLay.take 6) (fun q hq => hgood q (List.mem_of_mem_take hq))] at e
      exact e
    rw [hls]
    exact hst
  · -- proc2
    have hwd : nfWords ⟨[112, 114, 111, 99, 50], NN, SS⟩ = (NN.length :: NN).map decS := by
      unfold nfWords
      rw [if_pos (by decide : isProc [112, 114, 111, 99, 50] = true), if_neg (by decide : ¬ ([112, 114, 111, 99, 50] : List UInt8) = sTh)]
      simp
    rw [hwd] at e127 hcu
    have eP := s53 (NN.length :: NN) (by simp only [List.length_cons]; omega) (fun n hn => by
      rcases List.mem_cons.1 hn with rfl | hn
      · omega
      · exact f3 n hn)
    have eQ := z7 NN hk
    rw [show (18 :: NN) = (NN.length :: NN) from by rw [hk]] at eQ
    have hst := line3099_proc2 E (evF E (N + 1)) m hp88 hp90 h127 FP p53 Q7 q7 (layC srvLay done) hC _ t (nfBody ⟨[112, 114, 111, 99, 50], NN, SS⟩) more hsc htx (strs ((NN.length :: NN).map decS)) _ (u64s NN) e127 (by rw [strs_length]; simp) hcu eP eQ (by rw [u64s_length, hk])
    have hls : layC srvLay (done ++ [⟨[112, 114, 111, 99, 50], NN, SS⟩]) = setCells (layC srvLay done) 24 (u64s NN) := by
      have e := lay_step (pre := srvLay.take 7) (post := srvLay.drop 8) (p := ⟨[112, 114, 111, 99, 50], u64s, zeros 18⟩) (done := done) (r := ⟨[112, 114, 111, 99, 50], NN, SS⟩) rfl hno (by show ∀ q ∈ srvLay.take 7, [112, 114, 111, 99, 50] ≠ q.label; decide) (by show ∀ q ∈ srvLay.drop 8, [112, 114, 111, 99, 50] ≠ q.label; decide) (by show (u64s NN).length = (zeros 18).length; rw [u64s_length, hk]; rfl)
      rw [lay_len (L := srvLay.take 7) (fun q hq => hgood q (List.mem_of_mem_take hq))] at e
      exact e
    rw [hls]
    exact hst
  · -- proc3
    have hwd : nfWords ⟨[112, 114, 111, 99, 51], NN, SS⟩ = (NN.length :: NN).map decS := by
      unfold nfWords
      rw [if_pos (by decide : isProc [112, 114, 111, 99, 51] = true), if_neg (by decide : ¬ ([112, 114, 111, 99, 51] : List UInt8) = sTh)]
      simp
    rw [hwd] at e127 hcu
    have eP := s53 (NN.length :: NN) (by simp only [List.length_cons]; omega) (fun n hn => by
      rcases List.mem_cons.1 hn with rfl | hn
      · omega
      · exact f3 n hn)
    have eQ := z8 NN hk
    rw [show (22 :: NN) = (NN.length :: NN) from by rw [hk]] at eQ
    have hst := line3099_proc3 E (evF E (N + 1)) m hp88 hp90 h127 FP p53 Q8 q8 (layC srvLay done) hC _ t (nfBody ⟨[112, 114, 111, 99, 51], NN, SS⟩) more hsc htx (strs ((NN.length :: NN).map decS)) _ (u64s NN) e127 (by rw [strs_length]; simp) hcu eP eQ (by rw [u64s_length, hk])
    have hls : layC srvLay (done ++ [⟨[112, 114, 111, 99, 51], NN, SS⟩]) = setCells (layC srvLay done) 42 (u64s NN) := by
      have e := lay_step (pre := srvLay.take 8) (post := srvLay.drop 9) (p := ⟨[112, 114, 111, 99, 51], u64s, zeros 22⟩) (done := done) (r := ⟨[112, 114, 111, 99, 51], NN, SS⟩) rfl hno (by show ∀ q ∈ srvLay.take 8, [112, 114, 111, 99, 51] ≠ q.label; decide) (by show ∀ q ∈ srvLay.drop 9, [112, 114, 111, 99, 51] ≠ q.label; decide) (by show (u64s NN).length = (zeros 22).length; rw [u64s_length, hk]; rfl)
      rw [lay_len (L := srvLay.take 8) (fun q hq => hgood q (List.mem_of_mem_take hq))] at e
      exact e
    rw [hls]
    exact hst
  · -- proc4
    have hwd : nfWords ⟨[112, 114, 111, 99, 52], NN, SS⟩ = (NN.length :: NN).map decS := by
      unfold nfWords
      rw [if_pos (by decide : isProc [112, 114, 111, 99, 52] = true), if_neg (by decide : ¬ ([112, 114, 111, 99, 52] : List UInt8) = sTh)]
      simp
    rw [hwd] at e127 hcu
    have eP := s53 (NN.length :: NN) (by simp only [List.length_cons]; omega) (fun n hn => by
      rcases List.mem_cons.1 hn with rfl | hn
      · omega
      · exact f3 n hn)
    have eQ := z9 NN hk
    rw [show (2 :: NN) = (NN.length :: NN) from by rw [hk]] at eQ
    have hst := line3099_proc4 E (evF E (N + 1)) m hp88 hp90 h127 FP p53 Q9 q9 (layC srvLay done) hC _ t (nfBody ⟨[112, 114, 111, 99, 52], NN, SS⟩) more hsc htx (strs ((NN.length :: NN).map decS)) _ (u64s NN) e127 (by rw [strs_length]; simp) hcu eP eQ (by rw [u64s_length, hk])
    have hls : layC srvLay (done ++ [⟨[112, 114, 111, 99, 52], NN, SS⟩]) = setCells (layC srvLay done) 64 (u64s NN) := by
      have e := lay_step (pre := srvLay.take 9) (post := srvLay.drop 10) (p := ⟨[112, 114, 111, 99, 52], u64s, zeros 2⟩) (done := done) (r := ⟨[112, 114, 111, 99, 52], NN, SS⟩) rfl hno (by show ∀ q ∈ srvLay.take 9, [112, 114, 111, 99, 52] ≠ q.label; decide) (by show ∀ q ∈ srvLay.drop 10, [112, 114, 111, 99, 52] ≠ q.label; decide) (by show (u64s NN).length = (zeros 2).length; rw [u64s_length, hk]; rfl)
      rw [lay_len (L := srvLay.take 9) (fun q hq => hgood q (List.mem_of_mem_take hq))] at e
      exact e
    rw [hls]
    exact hst
  · -- proc4ops
    have hwd : nfWords ⟨[112, 114, 111, 99, 52, 111, 112, 115], NN, SS⟩ = (NN.length :: NN).map decS := by
      unfold nfWords
      rw [if_pos (by decide : isProc [112, 114, 111, 99, 52, 111, 112, 115] = true), if_neg (by decide : ¬ ([112, 114, 111, 99, 52, 111, 112, 115] : List UInt8) = sTh)]
      simp
    rw [hwd] at e127 hcu
    have eP := s53 (NN.length :: NN) (by simp only [List.length_cons]; omega) (fun n hn => by
      rcases List.mem_cons.1 hn with rfl | hn
      · omega
      · exact f3 n hn)
    have eQ := z10 NN hk (by omega)
    have hst := line3099_proc4ops E (evF E (N + 1)) m hp88 hp90 h127 FP p53 Q10 q10 (layC srvLay done) hC _ t (nfBody ⟨[112, 114, 111, 99, 52, 111, 112, 115], NN, SS⟩) more hsc htx (strs ((NN.length :: NN).map decS)) _ (u64s (NN.take 40)) e127 (by rw [strs_length]; simp) hcu eP eQ (by rw [u64s_length, List.length_take]; omega)
    have hls : layC srvLay (done ++ [⟨[112, 114, 111, 99, 52, 111, 112, 115], NN, SS⟩]) = setCells (layC srvLay done) 66 (u64s (NN.take 40)) := by
      have e := lay_step (pre := srvLay.take 10) (post := srvLay.drop 11) (p := ⟨[112, 114, 111, 99, 52, 111, 112, 115], (fun ns => u64s (ns.take 40)), zeros 40⟩) (done := done) (r := ⟨[112, 114, 111, 99, 52, 111, 112, 115], NN, SS⟩) rfl hno (by show ∀ q ∈ srvLay.take 10, [112, 114, 111, 99, 52, 111, 112, 115] ≠ q.label; decide) (by show ∀ q ∈ srvLay.drop 11, [112, 114, 111, 99, 52, 111, 112, 115] ≠ q.label; decide) (by show (u64s (NN.take 40)).length = (zeros 40).length; rw [u64s_length, List.length_take]; simp only [zeros, List.length_replicate]; omega)
      rw [lay_len (L := srvLay.take 10) (fun q hq => hgood q (List.mem_of_mem_take hq))] at e
      exact e
    rw [hls]
    exact hst
  · -- wdeleg_getattr
    have hwd : nfWords ⟨[119, 100, 101, 108, 101, 103, 95, 103, 101, 116, 97, 116, 116, 114], NN, SS⟩ = NN.map decS := by
      unfold nfWords
      rw [if_neg (by decide : ¬ isProc [119, 100, 101, 108, 101, 103, 95, 103, 101, 116, 97, 116, 116, 114] = true), if_neg (by decide : ¬ ([119, 100, 101, 108, 101, 103, 95, 103, 101, 116, 97, 116, 116, 114] : List UInt8) = sTh)]
      simp
    rw [hwd] at e127 hcu
    have eP := s53 NN (by omega) f3
    have e1 : ∃ n, NN = [n] := by
      match NN, hk with
      | [x], _ => exact ⟨x, rfl⟩
    obtain ⟨xn, rfl⟩ := e1
    have hst := line3099_wdeleg_getattr E (evF E (N + 1)) m hp88 hp90 h127 FP p53 (layC srvLay done) hC _ t (nfBody ⟨[119, 100, 101, 108, 101, 103, 95, 103, 101, 116, 97, 116, 116, 114], [xn], SS⟩) more hsc htx (strs ([xn].map decS)) _ (u64s [xn]) e127 (by rw [strs_length]; simp; try omega) hcu eP (xn : Int) rfl rfl
    have hls : layC srvLay (done ++ [⟨[119, 100, 101, 108, 101, 103, 95, 103, 101, 116, 97, 116, 116, 114], [xn], SS⟩]) = setCells (layC srvLay done) 106 (u64s [xn]) := by
      have e := lay_step (pre := srvLay.take 11) (post := srvLay.drop 12) (p := ⟨[119, 100, 101, 108, 101, 103, 95, 103, 101, 116, 97, 116, 116, 114], u64s, zeros 1⟩) (done := done) (r := ⟨[119, 100, 101, 108, 101, 103, 95, 103, 101, 116, 97, 116, 116, 114], [xn], SS⟩) rfl hno (by show ∀ q ∈ srvLay.take 11, [119, 100, 101, 108, 101, 103, 95, 103, 101, 116, 97, 116, 116, 114] ≠ q.label; decide) (by show ∀ q ∈ srvLay.drop 12, [119, 100, 101, 108, 101, 103, 95, 103, 101, 116, 97, 116, 116, 114] ≠ q.label; decide) rfl
      rw [lay_len (L := srvLay.take 11) (fun q hq => hgood q (List.mem_of_mem_take hq))] at e
      exact e
    rw [hls]
    exact hst
end Go.Ev

set_option linter.unusedSimpArgs false
set_option linter.unusedVariables false
namespace Go.Ev
open Go.Proofs
theorem loop3099 (E : Env) (H : SvH E) (N m : Nat) :
    ∀ (rest done : List RowD) (t : List UInt8) (k : Nat), (∀ q ∈ done ++ rest, nfOk1 nfSrv q = true) → (∀ q ∈ rest, q.fits3) → ((done ++ rest).map RowD.name).Nodup → (nfText rest).length ≤ 40000 → (nfText rest).length < N → rest.length < k →
      roundsA (evCA E (evF E (N + 1)) m b3099_0) k (st3099 (layC srvLay done) (nfText rest) t) = some (.exit 0, { nt := 181, tm := [(5, .ptr 1 0), (4, .ptr 0 0)], lz := none, bx := [.live (layC srvLay (done ++ rest)), scanBox [] []], df := [] }) := by
  have H' := H
  obtain ⟨_, _, _, _, _, _, _, _, _, _, _, _, h127, h88, h90, hp88, hp90⟩ := H'
  intro rest
  induction rest with
  | nil =>
    intro done t k hd _ _ _ _ hk
    obtain ⟨k, rfl⟩ : ∃ k', k = k' + 1 := ⟨k - 1, by omega⟩
    have hs := scan88e E h88 1 [.live (layC srvLay done), scanBox [] t] t rfl N
    simp only [List.set_cons_succ, List.set_cons_zero] at hs
    rw [List.append_nil]
    generalize layC srvLay done = C at *
    refine roundsA_out ?_ (by simp)
    have hnt : nfText [] = [] := rfl
    rw [hnt]
    simp only [scanBox] at *
    simp [b3099_0, st3099, scanBox, hp88, hs]
  | cons r rest ih =>
    intro done t k hd hf hn hl hN hk
    obtain ⟨k, rfl⟩ : ∃ k', k = k' + 1 := ⟨k - 1, by omega⟩
    rw [nfText_cons] at hl hN ⊢
    have hst := step3099 E H N m done r (fun q hq => hd q (by simp [hq])) (hd r (by simp)) (hf r (by simp)) (fun q hq he => by
      rw [List.map_append, List.map_cons, List.nodup_append] at hn
      exact hn.2.2 q.name (List.mem_map.2 ⟨q, hq, rfl⟩) r.name (by simp) he) (nfText rest) t hl hN
    simp only [List.length_append, List.length_cons] at hl hN hk
    have he := ih (done ++ [r]) (nfBody r) k (by rw [List.append_assoc]; exact hd) (fun q hq => hf q (by simp [hq])) (by rw [List.append_assoc]; exact hn) (by omega) (by omega) (by omega)
    rw [List.append_assoc] at he
    rw [roundsA_step hst]
    exact he
def S3099 (F : List SV → Option AV) : Prop := ∀ rs : List RowD, srvOk rs = true → rowsFit3 rs → (nfText rs).length ≤ 40000 → F [.str (nfText rs)] = some (.sv (.tup [.ref ((layCells srvLay rs).map SV.can0), .nilI]))
theorem layC0 : ([.sv (.int .u64 0), .sv (.int .u64 0), .sv (.int .u64 0), .sv (.int .u64 0), .sv (.int .u64 0), .sv (.int .u64 0), .sv (.int .u64 0), .sv (.int .u64 0), .sv (.int .u64 0), .sv (.int .u64 0), .sv (.int .u64 0), .sv (.int .u64 0), .sv (.int .u64 0), .sv .nilS, .sv (.int .u64 0), .sv (.int .u64 0), .sv (.int .u64 0), .sv (.int .u64 0), .sv (.int .u64 0), .sv (.int .u64 0), .sv (.int .u64 0), .sv (.int .u64 0), .sv (.int .u64 0), .sv (.int .u64 0), .sv (.int .u64 0), .sv (.int .u64 0), .sv (.int .u64 0), .sv (.int .u64 0), .sv (.int .u64 0), .sv (.int .u64 0), .sv (.int .u64 0), .sv (.int .u64 0), .sv (.int .u64 0), .sv (.int .u64 0), .sv (.int .u64 0), .sv (.int .u64 0), .sv (.int .u64 0), .sv (.int .u64 0), .sv (.int .u64 0), .sv (.int .u64 0), .sv (.int .u64 0), .sv (.int .u64 0), .sv (.int .u64 0), .sv (.int .u64 0), .sv (.int .u64 0), .sv (.int .u64 0), .sv (.int .u64 0), .sv (.int .u64 0), .sv (.int .u64 0), .sv (.int .u64 0), .sv (.int .u64 0), .sv (.int .u64 0), .sv (.int .u64 0), .sv (.int .u64 0), .sv (.int .u64 0), .sv (.int .u64 0), .sv (.int .u64 0), .sv (.int .u64 0), .sv (.int .u64 0), .sv (.int .u64 0), .sv (.int .u64 0), .sv (.int .u64 0), .sv (.int .u64 0), .sv (.int .u64 0), .sv (.int .u64 0), .sv (.int .u64 0), .sv (.int .u64 0), .sv (.int .u64 0), .sv (.int .u64 0), .sv (.int .u64 0), .sv (.int .u64 0), .sv (.int .u64 0), .sv (.int .u64 0), .sv (.int .u64 0), .sv (.int .u64 0), .sv (.int .u64 0), .sv (.int .u64 0), .sv (.int .u64 0), .sv (.int .u64 0), .sv (.int .u64 0), .sv (.int .u64 0), .sv (.int .u64 0), .sv (.int .u64 0), .sv (.int .u64 0), .sv (.int .u64 0), .sv (.int .u64 0), .sv (.int .u64 0), .sv (.int .u64 0), .sv (.int .u64 0), .sv (.int .u64 0), .sv (.int .u64 0), .sv (.int .u64 0), .sv (.int .u64 0), .sv (.int .u64 0), .sv (.int .u64 0), .sv (.int .u64 0), .sv (.int .u64 0), .sv (.int .u64 0), .sv (.int .u64 0), .sv (.int .u64 0), .sv (.int .u64 0), .sv (.int .u64 0), .sv (.int .u64 0), .sv (.int .u64 0), .sv (.int .u64 0), .sv (.int .u64 0), .sv (.int .u64 0)] : List Cell) = layC srvLay [] := rfl
theorem layC_plain (l : List Lay) (d : List RowD) : (layC l d).map Cell.plain = (layCells l d).map SV.can0 := by
  unfold layC
  rw [List.map_map]; rfl
set_option maxRecDepth 100000 in
set_option maxHeartbeats 16000000 in
theorem ev3099 (E : Env) (h : E.code 99 = some c3099) (H : SvH E) (h87 : E.code 116 = some c87) (h128 : E.code 159 = some c128) (hp87 : E.pure 116 = none) (hp128 : E.pure 159 = none) : S3099 (autoF E 99) := by
  intro rs hok hf hl
  have hok' := hok
  unfold srvOk nfOk at hok'
  simp only [Bool.and_eq_true, List.all_eq_true] at hok'
  have hrl : rs.length ≤ (nfText rs).length := by
    clear hok hok' hf hl
    induction rs with
    | nil => simp
    | cons r rs ih => rw [nfText_cons]; simp only [List.length_append, List.length_cons]; omega
  have e87 := evF87 E h87 ((nfText rs).length + 2) [.live (layC srvLay [])] (nfText rs)
  have hlp := loop3099 E H ((nfText rs).length + 2) ((nfText rs).length + 3) rs [] [] ((nfText rs).length + 3) hok'.1 hf.2 (distP_nodup _ _ hok'.2).1 hl (by omega) (by omega)
  have e128 := evF128 E h128 ((nfText rs).length + 2) 1 [.live (layC srvLay rs), scanBox [] []] [] [] rfl
  have hbc' := layC_plain srvLay rs
  clear H hok hok' hf hl hrl
  rw [List.nil_append] at hlp
  refine autoA_sv (n := (nfText rs).length + 3) ?_ rfl
  unfold evPA
  simp only [h]
  have hC0 := layC0
  generalize layC srvLay [] = C0 at *
  generalize layC srvLay rs = C at *
  generalize nfText rs = s at *
  generalize (layCells srvLay rs).map SV.can0 = R at *
  simp only [List.length_cons, List.length_nil, List.cons_append, List.nil_append] at e87
  simp only [st3099] at hlp
  simp only [scanBox] at *
  simp (maxSteps := 5000000) [c3099, hC0, hp87, hp128, e87, hlp, e128, hbc']
end Go.Ev

set_option linter.unusedSimpArgs false
set_option linter.unusedVariables false
namespace Go.Ev
open Go.Proofs
def stC (D : List Cell) : SA := { nt := 0, tm := [], lz := none, bx := [.live D], df := [] }
theorem stC_live (l : List SV) : (l.map Cell.sv).map (fun c => match c with | .sv v => v | .own _ xs => .sl xs | .lnk _ _ => .ref [] | .lrw _ _ _ => .unk) = l := by
  induction l with
  | nil => rfl
  | cons x l ih => simp only [List.map_cons]; rw [ih]
theorem cellsC (l : List SV) (off : Nat) : cellsAtA (stC (l.map Cell.sv)) (.ptr 0 off) = some (l.drop off) := by
  show some ((((l.map Cell.sv).drop off).map fun c => match c with | .sv v => v | .own _ xs => .sl xs | .lnk _ _ => .ref [] | .lrw _ _ _ => .unk)) = _
  rw [← List.map_drop, stC_live]
theorem partC {A B C : List SV} {off k : Nat} (h1 : A.length = off) (h2 : B.length = k) : takeN (some k) ((A ++ (B ++ C)).drop off) = some (.agg (B.map SV.can0)) := by
  subst h1; subst h2
  rw [List.drop_left]
  unfold takeN
  simp only
  rw [if_pos (by rw [List.length_append]; omega), List.take_left]
theorem partC1 {A C : List SV} {b : SV} {off : Nat} (h1 : A.length = off) : takeN none ((A ++ (b :: C)).drop off) = some b := by
  subst h1
  rw [List.drop_left]
  rfl
theorem partC2 {A C : List SV} {b : SV} {off : Nat} (h1 : A.length = off) : (A ++ (b :: C))[off]? = some b := by
  subst h1
  simp
set_option maxRecDepth 100000 in
set_option maxHeartbeats 40000000 in
theorem core3103 (E : Env) (h : E.code 103 = some c3103) (C : List SV) (hl : C.length = 107) (T0 : List SV → Option AV) (p0 : E.pure 176 = some T0) (P0 K0 : List SV) (e0 : T0 [.str [82, 101, 112, 108, 121, 67, 97, 99, 104, 101], .agg P0] = some (.sv (.agg [.str [82, 101, 112, 108, 121, 67, 97, 99, 104, 101], .int .i64 8, .bool false, .int .i64 0, .int .u64 0, .flt .f64 0, .str [], .sl K0]))) (y0 : (cellsAtA (stC (C.map Cell.sv)) (.ptr 0 0)).bind (takeN (some 3)) = some (.agg P0)) (q0 : P0.map SV.can0 = P0) (T1 : List SV → Option AV) (p1 : E.pure 177 = some T1) (P1 K1 : List SV) (e1 : T1 [.str [70, 105, 108, 101, 72, 97, 110, 100, 108, 101, 115], .agg P1] = some (.sv (.agg [.str [70, 105, 108, 101, 72, 97, 110, 100, 108, 101, 115], .int .i64 8, .bool false, .int .i64 0, .int .u64 0, .flt .f64 0, .str [], .sl K1]))) (y1 : (cellsAtA (stC (C.map Cell.sv)) (.ptr 0 3)).bind (takeN (some 5)) = some (.agg P1)) (q1 : P1.map SV.can0 = P1) (T2 : List SV → Option AV) (p2 : E.pure 178 = some T2) (P2 K2 : List SV) (e2 : T2 [.str [73, 110, 112, 117, 116, 79, 117, 116, 112, 117, 116], .agg P2] = some (.sv (.agg [.str [73, 110, 112, 117, 116, 79, 117, 116, 112, 117, 116], .int .i64 8, .bool false, .int .i64 0, .int .u64 0, .flt .f64 0, .str [], .sl K2]))) (y2 : (cellsAtA (stC (C.map Cell.sv)) (.ptr 0 8)).bind (takeN (some 2)) = some (.agg P2)) (q2 : P2.map SV.can0 = P2) (T3 : List SV → Option AV) (p3 : E.pure 179 = some T3) (P3 K3 : List SV) (e3 : T3 [.str [84, 104, 114, 101, 97, 100, 115], .agg P3] = some (.sv (.agg [.str [84, 104, 114, 101, 97, 100, 115], .int .i64 8, .bool false, .int .i64 0, .int .u64 0, .flt .f64 0, .str [], .sl K3]))) (y3 : (cellsAtA (stC (C.map Cell.sv)) (.ptr 0 10)).bind (takeN (some 2)) = some (.agg P3)) (q3 : P3.map SV.can0 = P3) (T4 : List SV → Option AV) (p4 : E.pure 180 = some T4) (P4 K4 : List SV) (e4 : T4 [.str [82, 101, 97, 100, 65, 104, 101, 97, 100, 67, 97, 99, 104, 101], .agg P4] = some (.sv (.agg [.str [82, 101, 97, 100, 65, 104, 101, 97, 100, 67, 97, 99, 104, 101], .int .i64 8, .bool false, .int .i64 0, .int .u64 0, .flt .f64 0, .str [], .sl K4]))) (y4 : (cellsAtA (stC (C.map Cell.sv)) (.ptr 0 12)).bind (takeN (some 3)) = some (.agg P4)) (q4 : P4.map SV.can0 = P4) (T5 : List SV → Option AV) (p5 : E.pure 161 = some T5) (P5 K5 : List SV) (e5 : T5 [.str [78, 101, 116, 119, 111, 114, 107], .agg P5] = some (.sv (.agg [.str [78, 101, 116, 119, 111, 114, 107], .int .i64 8, .bool false, .int .i64 0, .int .u64 0, .flt .f64 0, .str [], .sl K5]))) (y5 : (cellsAtA (stC (C.map Cell.sv)) (.ptr 0 15)).bind (takeN (some 4)) = some (.agg P5)) (q5 : P5.map SV.can0 = P5) (T6 : List SV → Option AV) (p6 : E.pure 181 = some T6) (P6 K6 : List SV) (e6 : T6 [.str [83, 101, 114, 118, 101, 114, 82, 80, 67], .agg P6] = some (.sv (.agg [.str [83, 101, 114, 118, 101, 114, 82, 80, 67], .int .i64 8, .bool false, .int .i64 0, .int .u64 0, .flt .f64 0, .str [], .sl K6]))) (y6 : (cellsAtA (stC (C.map Cell.sv)) (.ptr 0 19)).bind (takeN (some 5)) = some (.agg P6)) (q6 : P6.map SV.can0 = P6) (T7 : List SV → Option AV) (p7 : E.pure 163 = some T7) (P7 K7 : List SV) (e7 : T7 [.str [86, 50, 83, 116, 97, 116, 115], .agg P7] = some (.sv (.agg [.str [86, 50, 83, 116, 97, 116, 115], .int .i64 8, .bool false, .int .i64 0, .int .u64 0, .flt .f64 0, .str [], .sl K7]))) (y7 : (cellsAtA (stC (C.map Cell.sv)) (.ptr 0 24)).bind (takeN (some 18)) = some (.agg P7)) (q7 : P7.map SV.can0 = P7) (T8 : List SV → Option AV) (p8 : E.pure 164 = some T8) (P8 K8 : List SV) (e8 : T8 [.str [86, 51, 83, 116, 97, 116, 115], .agg P8] = some (.sv (.agg [.str [86, 51, 83, 116, 97, 116, 115], .int .i64 8, .bool false, .int .i64 0, .int .u64 0, .flt .f64 0, .str [], .sl K8]))) (y8 : (cellsAtA (stC (C.map Cell.sv)) (.ptr 0 42)).bind (takeN (some 22)) = some (.agg P8)) (q8 : P8.map SV.can0 = P8) (T9 : List SV → Option AV) (p9 : E.pure 182 = some T9) (P9 K9 : List SV) (e9 : T9 [.str [83, 101, 114, 118, 101, 114, 86, 52, 83, 116, 97, 116, 115], .agg P9] = some (.sv (.agg [.str [83, 101, 114, 118, 101, 114, 86, 52, 83, 116, 97, 116, 115], .int .i64 8, .bool false, .int .i64 0, .int .u64 0, .flt .f64 0, .str [], .sl K9]))) (y9 : (cellsAtA (stC (C.map Cell.sv)) (.ptr 0 64)).bind (takeN (some 2)) = some (.agg P9)) (q9 : P9.map SV.can0 = P9) (T10 : List SV → Option AV) (p10 : E.pure 183 = some T10) (P10 K10 : List SV) (e10 : T10 [.str [86, 52, 79, 112, 115], .agg P10] = some (.sv (.agg [.str [86, 52, 79, 112, 115], .int .i64 8, .bool false, .int .i64 0, .int .u64 0, .flt .f64 0, .str [], .sl K10]))) (y10 : (cellsAtA (stC (C.map Cell.sv)) (.ptr 0 66)).bind (takeN (some 40)) = some (.agg P10)) (q10 : P10.map SV.can0 = P10) (w : Nat) (cw : (cellsAtA (stC (C.map Cell.sv)) (.ptr 0 106)).bind (takeN none) = some (.int .u64 (w : Int))) (cx : C[106]? = some (.int .u64 (w : Int))) :
    evPA E 1 103 [.str [], .agg C] = some (.sv (nodeV [] 8 false 0 0 0 [] [.agg [.str [82, 101, 112, 108, 121, 67, 97, 99, 104, 101], .int .i64 8, .bool false, .int .i64 0, .int .u64 0, .flt .f64 0, .str [], .sl K0], .agg [.str [70, 105, 108, 101, 72, 97, 110, 100, 108, 101, 115], .int .i64 8, .bool false, .int .i64 0, .int .u64 0, .flt .f64 0, .str [], .sl K1], .agg [.str [73, 110, 112, 117, 116, 79, 117, 116, 112, 117, 116], .int .i64 8, .bool false, .int .i64 0, .int .u64 0, .flt .f64 0, .str [], .sl K2], .agg [.str [84, 104, 114, 101, 97, 100, 115], .int .i64 8, .bool false, .int .i64 0, .int .u64 0, .flt .f64 0, .str [], .sl K3], .agg [.str [82, 101, 97, 100, 65, 104, 101, 97, 100, 67, 97, 99, 104, 101], .int .i64 8, .bool false, .int .i64 0, .int .u64 0, .flt .f64 0, .str [], .sl K4], .agg [.str [78, 101, 116, 119, 111, 114, 107], .int .i64 8, .bool false, .int .i64 0, .int .u64 0, .flt .f64 0, .str [], .sl K5], .agg [.str [83, 101, 114, 118, 101, 114, 82, 80, 67], .int .i64 8, .bool false, .int .i64 0, .int .u64 0, .flt .f64 0, .str [], .sl K6], .agg [.str [86, 50, 83, 116, 97, 116, 115], .int .i64 8, .bool false, .int .i64 0, .int .u64 0, .flt .f64 0, .str [], .sl K7], .agg [.str [86, 51, 83, 116, 97, 116, 115], .int .i64 8, .bool false, .int .i64 0, .int .u64 0, .flt .f64 0, .str [], .sl K8], .agg [.str [83, 101, 114, 118, 101, 114, 86, 52, 83, 116, 97, 116, 115], .int .i64 8, .bool false, .int .i64 0, .int .u64 0, .flt .f64 0, .str [], .sl K9], .agg [.str [86, 52, 79, 112, 115], .int .i64 8, .bool false, .int .i64 0, .int .u64 0, .flt .f64 0, .str [], .sl K10], uNode sWdN w])) := by
  obtain ⟨D, hD⟩ : ∃ D, C.map Cell.sv = D := ⟨_, rfl⟩
  have hDl : D.length = 107 := by rw [← hD, List.length_map, hl]
  have hx : ∀ h : 106 < D.length, D[106]'h = .sv (.int .u64 (w : Int)) := by
    subst hD
    intro h
    have h' : 106 < C.length := by omega
    rw [List.getElem?_eq_getElem h'] at cx
    rw [List.getElem_map, Option.some.inj cx]
  rw [hD] at y0 y1 y2 y3 y4 y5 y6 y7 y8 y9 y10 cw
  simp [stC, hDl] at y0
  simp [stC, hDl] at y1
  simp [stC, hDl] at y2
  simp [stC, hDl] at y3
  simp [stC, hDl] at y4
  simp [stC, hDl] at y5
  simp [stC, hDl] at y6
  simp [stC, hDl] at y7
  simp [stC, hDl] at y8
  simp [stC, hDl] at y9
  simp [stC, hDl] at y10
  simp [stC, hDl] at cw
  unfold evPA
  simp only [h]
  unfold uNode nodeV sWdN
  simp (maxSteps := 10000000) [c3103, hl, hD, hDl, p0, e0, y0, q0, p1, e1, y1, q1, p2, e2, y2, q2, p3, e3, y3, q3, p4, e4, y4, q4, p5, e5, y5, q5, p6, e6, y6, q6, p7, e7, y7, q7, p8, e8, y8, q8, p9, e9, y9, q9, p10, e10, y10, q10, cw, hx]
end Go.Ev
