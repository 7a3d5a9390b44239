/- NFS: the server: the door's reading (lines printed by a program of this work). -/
/- NFS: the client: the door's lines (lines printed by a program of this work). -/
/- NFS: the server: the door's reading, whole (lines printed by a program of this work). -/
/- NFS: the server: the door's reading, all lines (lines printed by a program of this work). -/
import Derived.Test.YtgeaomghbiamgaaGreatDoorGay
import Derived.Test.YtgeaomghbiamgaaGreatDoorGba
import Derived.Test.YtgeaomghbiamgaaGreatDoorGax
import Derived.Test.YtgeaomghbiamgaaGreatDoorGas
import Derived.Test.YtgeaomghbiamgaaGreatDoorGbb
set_option linter.unusedSimpArgs false
set_option linter.unusedVariables false
namespace Go.Ev
open Go.Proofs

/-! ### Numbers -/

def S3153 (F : List SV → Option AV) : Prop := ∀ ns : List Nat, ns.length < 1000000000000 → (∀ n ∈ ns, n < 18446744073709551616) → F [.sl (strs (ns.map decS))] = some (.sv (.tup [.sl (u64s ns), .nilI]))

def st3153 (xs acc : List SV) (i : Nat) : SA := { nt := 32, tm := [(14, .sv (.int .i64 i)), (13, .sv (.int .i64 xs.length)), (12, .sv (.sl xs)), (4, .own 39 acc)], lz := none, bx := [], df := [] }

theorem loop3153 (E : Env) (cf : CallF) (m : Nat) (h91 : Has E 124 S91v) (xs : List SV) (hxl : xs.length < 1000000000000) :
    ∀ (rest : List Nat) (pre acc : List SV) (i k : Nat), xs = pre ++ strs (rest.map decS) → i = pre.length → acc.length = i → (∀ n ∈ rest, n < 18446744073709551616) → rest.length < k →
      roundsA (evCA E cf m b3153_0) k (st3153 xs acc i) = some (.exit 0, { nt := 32, tm := [(4, .own 39 (acc ++ u64s rest))], lz := none, bx := [], df := [] }) := by
  obtain ⟨F, hp, _, hF⟩ := h91
  intro rest
  induction rest with
  | nil =>
    intro pre acc i k hsp hi _ _ hk
    obtain ⟨k, rfl⟩ : ∃ k', k = k' + 1 := ⟨k - 1, by omega⟩
    have hlt : ¬ (i < xs.length) := by rw [hsp, hi]; simp [strs]
    refine roundsA_out ?_ (by simp)
    simp [st3153, b3153_0, hlt, u64s]
  | cons n rest ih =>
    intro pre acc i k hsp hi ha hr hk
    obtain ⟨k, rfl⟩ : ∃ k', k = k' + 1 := ⟨k - 1, by omega⟩
    have hlt : i < xs.length := by rw [hsp, hi]; simp [strs]
    have hc : ∀ h : i < xs.length, xs[i]'h = .str (decS n) := by subst hi; subst hsp; simp [strs]
    have hF1 := hF n (hr n (by simp))
    have hw : IntKind.i64.wrap ((i : Int) + 1) = ((i + 1 : Nat) : Int) := by rw [IntKind.wrap_i64]; omega
    have hl1 : (acc.length + 1) * 8 ≤ 140737488355328 := by omega
    have hl2 : acc.length + 1 ≤ 140737488355328 := by omega
    have hst : evCA E cf m b3153_0 (st3153 xs acc i) = some (.normal, st3153 xs (acc ++ [.int .u64 (n : Int)]) (i + 1)) := by
      generalize decS n = D at *
      simp [st3153, b3153_0, hlt, hc, hp, hF1, hw, hl1, hl2]
    have hk' : rest.length < k := by simp at hk; omega
    have hi' := ih (pre ++ [.str (decS n)]) (acc ++ [.int .u64 (n : Int)]) (i + 1) k (by rw [hsp]; simp [strs]) (by simp [hi]) (by simp [ha]) (fun q hq => hr q (by simp [hq])) hk'
    rw [roundsA_step hst]
    refine Eq.trans hi' ?_
    simp [u64s]

theorem ev3153 (E : Env) (h : E.code 79 = some c3153) (h91 : Has E 124 S91v) : S3153 (autoF E 79) := by
  intro ns hl hn
  have hxl : (strs (ns.map decS)).length = ns.length := by rw [strs_length]; simp
  have he := loop3153 E (evF E (ns.length + 1)) (ns.length + 1) h91 (strs (ns.map decS)) (by omega) ns [] [] 0 (ns.length + 1) rfl rfl rfl hn (by omega)
  have a1 : (0 : Int) ≤ (ns.length : Int) := by omega
  have a2 : (ns.length : Int) * 8 ≤ 70368744177664 := by omega
  have a3 : (ns.length : Int) ≤ 70368744177664 := by omega
  have a4 : ns.length * 8 ≤ 70368744177664 := by omega
  have a5 : ns.length ≤ 70368744177664 := by omega
  refine autoA_sv (n := ns.length + 1) ?_ rfl
  unfold evPA
  simp only [h]
  simp only [st3153, hxl, Int.ofNat_zero, Int.natCast_zero, List.nil_append] at he
  generalize u64s ns = U at *
  generalize strs (ns.map decS) = X at *
  simp [c3153, hxl, a1, a2, a3, a4, a5, he]

/-! ### The cells -/

structure Lay where
  label : List UInt8
  vals : List Nat → List SV
  zero : List SV

def zeros (k : Nat) : List SV := List.replicate k (.int .u64 0)

def layPart (done : List RowD) (p : Lay) : List SV := match rowOf done p.label with
  | some r => p.vals r.N
  | none => p.zero

def layCells (L : List Lay) (done : List RowD) : List SV := (L.map (layPart done)).flatten

def layC (L : List Lay) (done : List RowD) : List Cell := (layCells L done).map .sv

theorem setCells_mid : ∀ (vs B : List SV) (A C : List Cell), vs.length = B.length → setCells (A ++ (B.map .sv ++ C)) A.length vs = A ++ (vs.map .sv ++ C)
  | [], B, A, C, h => by
    have : B = [] := List.eq_nil_of_length_eq_zero h.symm
    subst this; rfl
  | v :: vs, B, A, C, h => by
    match B, h with
    | b :: B, h =>
      have ih := setCells_mid vs B (A ++ [.sv v]) C (by simpa using h)
      unfold setCells
      rw [show (A ++ ((b :: B).map Cell.sv ++ C)).set A.length (.sv v) = (A ++ [.sv v]) ++ (B.map .sv ++ C) from by
        rw [List.set_append_right _ _ (by omega)]; simp]
      rw [List.length_append, List.length_singleton] at ih
      rw [ih]; simp

theorem rowOf_snoc : ∀ (done : List RowD) (r : RowD) (s : List UInt8), rowOf (done ++ [r]) s = match rowOf done s with | some x => some x | none => if r.name = s then some r else none
  | [], r, s => by
    show rowOf [r] s = _
    unfold rowOf
    split <;> rfl
  | x :: done, r, s => by
    show rowOf (x :: (done ++ [r])) s = _
    unfold rowOf
    split
    · rfl
    · exact rowOf_snoc done r s

theorem layPart_other {done : List RowD} {r : RowD} {p : Lay} (h : r.name ≠ p.label) : layPart (done ++ [r]) p = layPart done p := by
  unfold layPart
  rw [rowOf_snoc]
  cases rowOf done p.label with
  | some x => rfl
  | none => simp only; rw [if_neg h]

theorem layCells_other {L : List Lay} {done : List RowD} {r : RowD} (h : ∀ q ∈ L, r.name ≠ q.label) : layCells L (done ++ [r]) = layCells L done := by
  unfold layCells
  congr 1
  exact List.map_congr_left fun q hq => layPart_other (h q hq)

theorem lay_step {pre post : List Lay} {p : Lay} {done : List RowD} {r : RowD} (hn : r.name = p.label) (hno : rowOf done p.label = none) (h1 : ∀ q ∈ pre, r.name ≠ q.label) (h2 : ∀ q ∈ post, r.name ≠ q.label) (hl : (p.vals r.N).length = p.zero.length) :
    layC (pre ++ p :: post) (done ++ [r]) = setCells (layC (pre ++ p :: post) done) (layCells pre done).length (p.vals r.N) := by
  have e0 : ∀ d : List RowD, layC (pre ++ p :: post) d = (layCells pre d).map .sv ++ ((layPart d p).map .sv ++ (layCells post d).map .sv) := fun d => by
    unfold layC layCells
    simp
  have hz : layPart done p = p.zero := by unfold layPart; rw [hno]
  have hv : layPart (done ++ [r]) p = p.vals r.N := by unfold layPart; rw [rowOf_snoc, hno]; simp only; rw [if_pos hn]
  rw [e0, e0, layCells_other h1, layCells_other h2, hz, hv]
  have := setCells_mid (p.vals r.N) p.zero ((layCells pre done).map .sv) ((layCells post done).map .sv) hl
  rw [List.length_map] at this
  exact this.symm

/-- The rows of a table have as many values as cells. -/
def layGood (L : List Lay) (done : List RowD) : Prop := ∀ q ∈ L, ∀ r ∈ done, r.name = q.label → (q.vals r.N).length = q.zero.length

theorem lay_len {done : List RowD} : ∀ {L : List Lay}, layGood L done → (layCells L done).length = (L.map fun q => q.zero.length).sum
  | [], _ => rfl
  | q :: L, h => by
    have ih := lay_len (L := L) (fun x hx => h x (by simp [hx]))
    unfold layCells at ih ⊢
    simp only [List.map_cons, List.flatten_cons, List.length_append, List.sum_cons, ih]
    have : (layPart done q).length = q.zero.length := by
      unfold layPart
      cases hr : rowOf done q.label with
      | none => rfl
      | some r =>
        obtain ⟨m1, m2⟩ := rowOf_mem hr
        exact h q (by simp) r m1 m2
    omega

/-! ### A line -/

end Go.Ev

set_option linter.unusedSimpArgs false
set_option linter.unusedVariables false
namespace Go.Ev
open Go.Proofs

def cliLay : List Lay := [⟨[110, 101, 116], u64s, zeros 4⟩, ⟨[114, 112, 99], u64s, zeros 3⟩, ⟨[112, 114, 111, 99, 50], u64s, zeros 18⟩, ⟨[112, 114, 111, 99, 51], u64s, zeros 22⟩, ⟨[112, 114, 111, 99, 52], fun ns => u64s (sw45 ns), zeros 59⟩]

def st3090 (C : List Cell) (s t : List UInt8) : SA := { nt := 97, tm := [(5, .ptr 1 0), (4, .ptr 0 0)], lz := none, bx := [.live C, scanBox s t], df := [] }

set_option maxRecDepth 100000 in
set_option maxHeartbeats 16000000 in
theorem line3090_net (E : Env) (cf : CallF) (m : Nat) (hp88 : E.pure 75 = none) (hp90 : E.pure 77 = none) (h127 : E.pure 76 = some F127) (FP : List SV → Option AV) (p53 : E.pure 79 = some FP) (FQ : List SV → Option AV) (pq : E.pure 80 = some FQ) (C : List Cell) (hC : C.length = 106) (s t line rest : List UInt8)
    (hsc : cf 75 [.ptr 1 0] [.live C, scanBox s t] = some (.sv (.bool true), [.live C, scanBox rest line])) (htx : cf 77 [.ptr 1 0] [.live C, scanBox rest line] = some (.sv (.str line), [.live C, scanBox rest line]))
    (W V us : List SV) (e127 : F127 [.str line] = some (.sv (.sl (.str [110, 101, 116] :: W)))) (hW : 1 ≤ W.length) (hu : ∀ x ∈ W, x.cells.length = 1) (eP : FP [.sl W] = some (.sv (.tup [.sl V, .nilI])))
    (eQ : FQ [.sl V] = some (.sv (.tup [.agg us, .nilI]))) (hul : us.length = 4) :
    evCA E cf m b3090_0 (st3090 C s t) = some (.normal, st3090 (setCells C 0 us) rest line) := by
  have hu2 : (∀ x : SV, x ∈ W → x.cells.length = 1) = True := eq_true hu
  simp only [SV.cells] at hu2
  have a1 : ¬ ((W.length : Int) + 1 < 2) := by omega
  have a2 : (0 : Int) ≤ (W.length : Int) + 1 := by omega
  have a3 : (1 : Int) ≤ (W.length : Int) + 1 := by omega
  have a4 : 1 ≤ W.length + 1 := by omega
  have htk : W.take W.length = W := List.take_length
  clear hu hW
  simp only [scanBox] at *
  simp [st3090, scanBox, b3090_0, hp88, hp90, hsc, htx, h127, e127, hu2, a1, a2, a3, a4, htk, p53, eP, pq, eQ, hul, hC]

set_option maxRecDepth 100000 in
set_option maxHeartbeats 16000000 in
theorem line3090_rpc (E : Env) (cf : CallF) (m : Nat) (hp88 : E.pure 75 = none) (hp90 : E.pure 77 = none) (h127 : E.pure 76 = some F127) (FP : List SV → Option AV) (p53 : E.pure 79 = some FP) (FQ : List SV → Option AV) (pq : E.pure 81 = some FQ) (C : List Cell) (hC : C.length = 106) (s t line rest : List UInt8)
    (hsc : cf 75 [.ptr 1 0] [.live C, scanBox s t] = some (.sv (.bool true), [.live C, scanBox rest line])) (htx : cf 77 [.ptr 1 0] [.live C, scanBox rest line] = some (.sv (.str line), [.live C, scanBox rest line]))
    (W V us : List SV) (e127 : F127 [.str line] = some (.sv (.sl (.str [114, 112, 99] :: W)))) (hW : 1 ≤ W.length) (hu : ∀ x ∈ W, x.cells.length = 1) (eP : FP [.sl W] = some (.sv (.tup [.sl V, .nilI])))
    (eQ : FQ [.sl V] = some (.sv (.tup [.agg us, .nilI]))) (hul : us.length = 3) :
    evCA E cf m b3090_0 (st3090 C s t) = some (.normal, st3090 (setCells C 4 us) rest line) := by
  have hu2 : (∀ x : SV, x ∈ W → x.cells.length = 1) = True := eq_true hu
  simp only [SV.cells] at hu2
  have a1 : ¬ ((W.length : Int) + 1 < 2) := by omega
  have a2 : (0 : Int) ≤ (W.length : Int) + 1 := by omega
  have a3 : (1 : Int) ≤ (W.length : Int) + 1 := by omega
  have a4 : 1 ≤ W.length + 1 := by omega
  have htk : W.take W.length = W := List.take_length
  clear hu hW
  simp only [scanBox] at *
  simp [st3090, scanBox, b3090_0, hp88, hp90, hsc, htx, h127, e127, hu2, a1, a2, a3, a4, htk, p53, eP, pq, eQ, hul, hC]

set_option maxRecDepth 100000 in
set_option maxHeartbeats 16000000 in
theorem line3090_proc2 (E : Env) (cf : CallF) (m : Nat) (hp88 : E.pure 75 = none) (hp90 : E.pure 77 = none) (h127 : E.pure 76 = some F127) (FP : List SV → Option AV) (p53 : E.pure 79 = some FP) (FQ : List SV → Option AV) (pq : E.pure 82 = some FQ) (C : List Cell) (hC : C.length = 106) (s t line rest : List UInt8)
    (hsc : cf 75 [.ptr 1 0] [.live C, scanBox s t] = some (.sv (.bool true), [.live C, scanBox rest line])) (htx : cf 77 [.ptr 1 0] [.live C, scanBox rest line] = some (.sv (.str line), [.live C, scanBox rest line]))
    (W V us : List SV) (e127 : F127 [.str line] = some (.sv (.sl (.str [112, 114, 111, 99, 50] :: W)))) (hW : 1 ≤ W.length) (hu : ∀ x ∈ W, x.cells.length = 1) (eP : FP [.sl W] = some (.sv (.tup [.sl V, .nilI])))
    (eQ : FQ [.sl V] = some (.sv (.tup [.agg us, .nilI]))) (hul : us.length = 18) :
    evCA E cf m b3090_0 (st3090 C s t) = some (.normal, st3090 (setCells C 7 us) rest line) := by
  have hu2 : (∀ x : SV, x ∈ W → x.cells.length = 1) = True := eq_true hu
  simp only [SV.cells] at hu2
  have a1 : ¬ ((W.length : Int) + 1 < 2) := by omega
  have a2 : (0 : Int) ≤ (W.length : Int) + 1 := by omega
  have a3 : (1 : Int) ≤ (W.length : Int) + 1 := by omega
  have a4 : 1 ≤ W.length + 1 := by omega
  have htk : W.take W.length = W := List.take_length
  clear hu hW
  simp only [scanBox] at *
  simp [st3090, scanBox, b3090_0, hp88, hp90, hsc, htx, h127, e127, hu2, a1, a2, a3, a4, htk, p53, eP, pq, eQ, hul, hC]

set_option maxRecDepth 100000 in
set_option maxHeartbeats 16000000 in
theorem line3090_proc3 (E : Env) (cf : CallF) (m : Nat) (hp88 : E.pure 75 = none) (hp90 : E.pure 77 = none) (h127 : E.pure 76 = some F127) (FP : List SV → Option AV) (p53 : E.pure 79 = some FP) (FQ : List SV → Option AV) (pq : E.pure 83 = some FQ) (C : List Cell) (hC : C.length = 106) (s t line rest : List UInt8)
    (hsc : cf 75 [.ptr 1 0] [.live C, scanBox s t] = some (.sv (.bool true), [.live C, scanBox rest line])) (htx : cf 77 [.ptr 1 0] [.live C, scanBox rest line] = some (.sv (.str line), [.live C, scanBox rest line]))
    (W V us : List SV) (e127 : F127 [.str line] = some (.sv (.sl (.str [112, 114, 111, 99, 51] :: W)))) (hW : 1 ≤ W.length) (hu : ∀ x ∈ W, x.cells.length = 1) (eP : FP [.sl W] = some (.sv (.tup [.sl V, .nilI])))
    (eQ : FQ [.sl V] = some (.sv (.tup [.agg us, .nilI]))) (hul : us.length = 22) :
    evCA E cf m b3090_0 (st3090 C s t) = some (.normal, st3090 (setCells C 25 us) rest line) := by
  have hu2 : (∀ x : SV, x ∈ W → x.cells.length = 1) = True := eq_true hu
  simp only [SV.cells] at hu2
  have a1 : ¬ ((W.length : Int) + 1 < 2) := by omega
  have a2 : (0 : Int) ≤ (W.length : Int) + 1 := by omega
  have a3 : (1 : Int) ≤ (W.length : Int) + 1 := by omega
  have a4 : 1 ≤ W.length + 1 := by omega
  have htk : W.take W.length = W := List.take_length
  clear hu hW
  simp only [scanBox] at *
  simp [st3090, scanBox, b3090_0, hp88, hp90, hsc, htx, h127, e127, hu2, a1, a2, a3, a4, htk, p53, eP, pq, eQ, hul, hC]

set_option maxRecDepth 100000 in
set_option maxHeartbeats 16000000 in
theorem line3090_proc4 (E : Env) (cf : CallF) (m : Nat) (hp88 : E.pure 75 = none) (hp90 : E.pure 77 = none) (h127 : E.pure 76 = some F127) (FP : List SV → Option AV) (p53 : E.pure 79 = some FP) (FQ : List SV → Option AV) (pq : E.pure 84 = some FQ) (C : List Cell) (hC : C.length = 106) (s t line rest : List UInt8)
    (hsc : cf 75 [.ptr 1 0] [.live C, scanBox s t] = some (.sv (.bool true), [.live C, scanBox rest line])) (htx : cf 77 [.ptr 1 0] [.live C, scanBox rest line] = some (.sv (.str line), [.live C, scanBox rest line]))
    (W V us : List SV) (e127 : F127 [.str line] = some (.sv (.sl (.str [112, 114, 111, 99, 52] :: W)))) (hW : 1 ≤ W.length) (hu : ∀ x ∈ W, x.cells.length = 1) (eP : FP [.sl W] = some (.sv (.tup [.sl V, .nilI])))
    (eQ : FQ [.sl V] = some (.sv (.tup [.agg us, .nilI]))) (hul : us.length = 59) :
    evCA E cf m b3090_0 (st3090 C s t) = some (.normal, st3090 (setCells C 47 us) rest line) := by
  have hu2 : (∀ x : SV, x ∈ W → x.cells.length = 1) = True := eq_true hu
  simp only [SV.cells] at hu2
  have a1 : ¬ ((W.length : Int) + 1 < 2) := by omega
  have a2 : (0 : Int) ≤ (W.length : Int) + 1 := by omega
  have a3 : (1 : Int) ≤ (W.length : Int) + 1 := by omega
  have a4 : 1 ≤ W.length + 1 := by omega
  have htk : W.take W.length = W := List.take_length
  clear hu hW
  simp only [scanBox] at *
  simp [st3090, scanBox, b3090_0, hp88, hp90, hsc, htx, h127, e127, hu2, a1, a2, a3, a4, htk, p53, eP, pq, eQ, hul, hC]

end Go.Ev

set_option linter.unusedSimpArgs false
set_option linter.unusedVariables false
namespace Go.Ev
open Go.Proofs

theorem strs_cells (l : List (List UInt8)) : ∀ x ∈ strs l, x.cells.length = 1 := fun x hx => by
  obtain ⟨y, _, rfl⟩ := List.mem_map.1 hx
  rfl

theorem rowOf_none {done : List RowD} {s : List UInt8} (h : ∀ r ∈ done, r.name ≠ s) : rowOf done s = none := by
  cases hv : rowOf done s with
  | none => rfl
  | some r =>
    obtain ⟨m1, m2⟩ := rowOf_mem hv
    exact absurd m2 (h r m1)

end Go.Ev

set_option linter.unusedSimpArgs false
set_option linter.unusedVariables false
namespace Go.Ev
open Go.Proofs

theorem layC_plain (l : List Lay) (d : List RowD) : (layC l d).map Cell.plain = (layCells l d).map SV.can0 := by
  unfold layC
  rw [List.map_map]; rfl

end Go.Ev
