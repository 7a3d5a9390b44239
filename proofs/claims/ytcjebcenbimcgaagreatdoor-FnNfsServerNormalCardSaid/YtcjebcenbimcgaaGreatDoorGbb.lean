/- Softirqs: what is written of rows. -/
/- Softirqs: what is written of rows, whole. -/
/- Softirqs: the reference's printing, whole. -/
/- Softirqs: the reference's tree. -/
import Derived.Test.YtcjebcenbimcgaaGreatDoorGas
import Derived.Test.YtcjebcenbimcgaaGreatDoorGaq
set_option linter.unusedSimpArgs false
set_option linter.unusedVariables false
namespace Go.Ev
open Go.Proofs
end Go.Ev

set_option linter.unusedSimpArgs false
set_option linter.unusedVariables false
namespace Go.Ev
open Go.Proofs
end Go.Ev

set_option linter.unusedSimpArgs false
set_option linter.unusedVariables false
namespace Go.Ev
open Go.Proofs
end Go.Ev

set_option linter.unusedSimpArgs false
set_option linter.unusedVariables false
namespace Go.Ev
open Go.Proofs
def S35o (F : List SV → Option AV) : Prop := ∀ (nm : List UInt8) (u : Int), F [.str nm, .int .u64 u] = some (.sv (nodeV nm 3 false 0 u 0 [] []))
theorem ev35o (E : Env) (h : E.code 48 = some c35) : S35o (autoF E 48) := by
  intro nm u
  refine autoA_sv (n := 1) ?_ rfl
  unfold evPA
  simp only [h]
  simp [c35, nodeV]
def st51 (nm : List UInt8) (xs acc : List SV) (i : Nat) (z : Box) : SA := { nt := 23, tm := [(10, .sv (.int .i64 i)), (9, .sv (.int .i64 xs.length)), (8, .sv (.sl xs)), (5, accA 42 acc), (4, .ptr 0 0), (0, .sv (.str nm))], lz := none, bx := [z], df := [] }
set_option maxHeartbeats 4000000 in
theorem step51 (E : Env) (cf : CallF) (m : Nat) (h35 : Has E 48 S35o) (nm : List UInt8) (xs acc : List SV) (ha : acc.length < 1000000000) (i : Nat) (hlt : i < xs.length) (hxl : xs.length < 100000000) (n : Nat) (hc : ∀ h : i < xs.length, xs[i]'h = .int .u64 (n : Int)) (z : Box) :
    evCA E cf m b51_0 (st51 nm xs acc i z) = some (.normal, st51 nm xs (acc ++ [uN n]) (i + 1) z) := by
  obtain ⟨G, hG, hg⟩ := h35
  have hgx := hg [] (n : Int)
  have hw : IntKind.i64.wrap ((i : Int) + 1) = ((i + 1 : Nat) : Int) := by rw [IntKind.wrap_i64]; omega
  have hl1 : (acc.length + 1) * 96 ≤ 140737488355328 := by omega
  have hl2 : acc.length + 1 ≤ 140737488355328 := by omega
  unfold uN nodeV at *
  cases acc with
  | nil => simp [st51, b51_0, hlt, hc, hG, hgx, hw, accA]
  | cons y ys =>
    simp only [List.length_cons] at hl1 hl2
    simp [st51, b51_0, hlt, hc, hG, hgx, hw, accA, hl1, hl2]
theorem loop51 (E : Env) (cf : CallF) (m : Nat) (h35 : Has E 48 S35o) (nm : List UInt8) (xs : List SV) (hxl : xs.length < 100000000) (z : Box) :
    ∀ (rest : List Nat) (pre acc : List SV) (i : Nat) (k : Nat), xs = pre ++ u64s rest → i = pre.length → acc.length = i → rest.length < k →
      roundsA (evCA E cf m b51_0) k (st51 nm xs acc i z) = some (.exit 0, { nt := 23, tm := [(5, accA 42 (acc ++ rest.map uN)), (4, .ptr 0 0), (0, .sv (.str nm))], lz := none, bx := [z], df := [] }) := by
  intro rest
  induction rest with
  | nil =>
    intro pre acc i k hsp hi ha hk
    obtain ⟨k, rfl⟩ : ∃ k', k = k' + 1 := ⟨k - 1, by omega⟩
    have hlt : ¬ (i < xs.length) := by rw [hsp, hi]; simp [u64s]
    refine roundsA_out ?_ (by simp)
    simp only [List.map_nil, List.append_nil]
    cases acc with
    | nil => simp [st51, b51_0, hlt, accA]
    | cons y ys => simp [st51, b51_0, hlt, accA]
  | cons n rest ih =>
    intro pre acc i k hsp hi ha hk
    obtain ⟨k, rfl⟩ : ∃ k', k = k' + 1 := ⟨k - 1, by omega⟩
    have hlt : i < xs.length := by rw [hsp, hi]; simp [u64s]
    have hc : ∀ h : i < xs.length, xs[i]'h = .int .u64 (n : Int) := by subst hi; subst hsp; simp [u64s]
    rw [roundsA_step (step51 E cf m h35 nm xs acc (by omega) i hlt hxl n hc z)]
    rw [ih (pre ++ [.int .u64 (n : Int)]) (acc ++ [uN n]) (i + 1) k (by rw [hsp]; simp [u64s]) (by simp [hi]) (by simp [ha]) (by simp at hk; omega)]
    simp
def S51 (F : List SV → Option AV) : Prop := ∀ (nm : List UInt8) (ns : List Nat), ns.length < 100000000 → F [.str nm, .sl (u64s ns)] = some (.sv (nodeV nm 6 false 0 0 0 [] (ns.map uN)))
theorem ev51 (E : Env) (h : E.code 64 = some c51) (h35 : Has E 48 S35o) (h36 : E.pure 49 = some F36) : S51 (autoF E 64) := by
  intro nm ns hl
  have he := loop51 E (evF E (ns.length + 1)) (ns.length + 1) h35 nm (u64s ns) (by simpa [u64s] using hl) (.live [.sv (.str []), .sv (.int .i64 0), .sv (.bool false), .sv (.int .i64 0), .sv (.int .u64 0), .sv (.flt .f64 0), .sv (.str []), .sv .nilS]) ns [] [] 0 (ns.length + 1) rfl rfl rfl (by omega)
  refine autoA_sv (n := ns.length + 1) ?_ rfl
  unfold evPA
  simp only [h]
  rw [List.nil_append] at he
  simp only [st51, Int.ofNat_zero, Int.natCast_zero] at he
  generalize ns.map uN = ks at he ⊢
  generalize u64s ns = xs at he ⊢
  cases ks with
  | nil => simp only [accA] at he; simp [c51, he, nodeV, h36, F36, accA]
  | cons y ys => simp only [accA] at he; simp [c51, he, nodeV, h36, F36, accA]
end Go.Ev
