/- Trees of the laws: a copy is the same tree. -/
/- Trees of the laws: a copy is the same tree, whole. -/
/- A tree is the same as itself. -/
/- A tree is the same as itself, whole. -/
/- The door's small functions. -/
/- Scanners: what stands in their boxes. -/
/- A scanner's step. -/
/- A scanner at the end. -/
import Derived.Test.YtabmfgoghdokbaaGreatDoorFB
set_option linter.unusedSimpArgs false
set_option linter.unusedVariables false
namespace Go.Ev
open Go.Proofs

def accC (e : Nat) : List SV → Cell
  | [] => .sv .nilS
  | x :: xs => .own e (x :: xs)

def zeroBox : Box := .live [.sv (.str []), .sv (.int .i64 0), .sv (.bool false), .sv (.int .i64 0), .sv (.int .u64 0), .sv (.flt .f64 0), .sv (.str []), .sv .nilS]

def nodeBox (name : List UInt8) (kind : Int) (b : Bool) (i u : Int) (f : Nat) (s : List UInt8) (k : Cell) : Box := .live [.sv (.str name), .sv (.int .i64 kind), .sv (.bool b), .sv (.int .i64 i), .sv (.int .u64 u), .sv (.flt .f64 f), .sv (.str s), k]

set_option maxHeartbeats 4000000 in
theorem step27 (E : Env) (cf : CallF) (G : List SV → Option AV) (hP : E.pure 27 = some G) (xs : List SV) (m k j : Nat) (n0 : List UInt8) (k0 : Int) (b0 : Bool) (i0 u0 : Int) (f0 : Nat) (s0 : List UInt8) (x1 : List SV) (bx0 bx1 : Box) (bx : List Box) (acc : List SV) (name : List UInt8) (kind : Int) (b : Bool) (i u : Int) (f : Nat) (s : List UInt8)
    (hj : j < xs.length) (hc : ∀ h : j < xs.length, xs[j]'h = nodeV n0 k0 b0 i0 u0 f0 s0 x1) (hG : G [nodeV n0 k0 b0 i0 u0 f0 s0 x1] = some (.sv (nodeV n0 k0 b0 i0 u0 f0 s0 x1))) (hal : acc.length < 1000000000) (hxs : xs.length < 1000000000) :
    rounds (evC E cf m b27_0) (k + 1) { tm := [.sv .undef, .sv .undef, .ptr 1 0, .ptr 2 0] ++ List.replicate 18 (.sv .undef) ++ [.sv (.sl xs), .sv (.int .i64 xs.length), .sv (.int .i64 j)] ++ List.replicate 12 (.sv .undef), lz := none, bx := bx0 :: bx1 :: nodeBox name kind b i u f s (accC 40 acc) :: bx, df := [] } =
      rounds (evC E cf m b27_0) k { tm := [.sv .undef, .sv .undef, .ptr 1 0, .ptr 2 0] ++ List.replicate 18 (.sv .undef) ++ [.sv (.sl xs), .sv (.int .i64 xs.length), .sv (.int .i64 (j + 1 : Nat))] ++ List.replicate 12 (.sv .undef), lz := none, bx := bx0 :: bx1 :: nodeBox name kind b i u f s (accC 40 (acc ++ [nodeV n0 k0 b0 i0 u0 f0 s0 x1])) :: (bx ++ [nodeBox n0 k0 b0 i0 u0 f0 s0 (.sv (.sl x1))]), df := [] } := by
  have hw2 : IntKind.i64.wrap ((j : Int) + 1) = ((j + 1 : Nat) : Int) := by rw [IntKind.wrap_i64]; omega
  have hl1 : (acc.length + 1) * 96 ≤ 140737488355328 := by omega
  have hl2 : acc.length + 1 ≤ 140737488355328 := by omega
  simp only [nodeV] at hc hG
  cases acc with
  | nil => simp [rounds, b27_0, List.replicate, hj, hc, hP, hG, nodeBox, accC, hw2, nodeV]
  | cons q qs =>
    simp only [List.length_cons] at hl1 hl2
    simp [rounds, b27_0, List.replicate, hj, hc, hP, hG, nodeBox, accC, hw2, nodeV, hl1, hl2]

end Go.Ev

set_option linter.unusedSimpArgs false
set_option linter.unusedVariables false
namespace Go.Ev
open Go.Proofs

inductive IsNode : SV → Prop
  | mk (name : List UInt8) (kind : Int) (b : Bool) (i u : Int) (f : Nat) (s : List UInt8) (kids : List SV) (hl : kids.length < 1000000000) (h : ∀ k ∈ kids, IsNode k) : IsNode (nodeV name kind b i u f s kids)

theorem loop27 (E : Env) (cf : CallF) (G : List SV → Option AV) (hP : E.pure 27 = some G) (xs : List SV) (m : Nat) (hxs : xs.length < 1000000000) (bx0 bx1 : Box) (name : List UInt8) (kind : Int) (b : Bool) (i u : Int) (f : Nat) (s : List UInt8) :
    ∀ (rest pre : List SV) (bx : List Box) (k : Nat), xs = pre ++ rest → (∀ v ∈ rest, IsNode v ∧ G [v] = some (.sv v)) → rest.length < k →
      ∃ bx', rounds (evC E cf m b27_0) k { tm := [.sv .undef, .sv .undef, .ptr 1 0, .ptr 2 0] ++ List.replicate 18 (.sv .undef) ++ [.sv (.sl xs), .sv (.int .i64 xs.length), .sv (.int .i64 pre.length)] ++ List.replicate 12 (.sv .undef), lz := none, bx := bx0 :: bx1 :: nodeBox name kind b i u f s (accC 40 pre) :: bx, df := [] } =
        some (.exit 0, { tm := [.sv .undef, .sv .undef, .ptr 1 0, .ptr 2 0] ++ List.replicate 33 (.sv .undef), lz := none, bx := bx0 :: bx1 :: nodeBox name kind b i u f s (accC 40 xs) :: bx', df := [] }) := by
  intro rest
  induction rest with
  | nil =>
    intro pre bx k hsp _ hk
    obtain ⟨k, rfl⟩ : ∃ k', k = k' + 1 := ⟨k - 1, by omega⟩
    have hlt : ¬ (pre.length < xs.length) := by rw [hsp]; simp
    have he : pre = xs := by rw [hsp]; simp
    subst he
    exact ⟨bx, by simp [rounds, b27_0, List.replicate]⟩
  | cons r rest ih =>
    intro pre bx k hsp hr hk
    obtain ⟨k, rfl⟩ : ∃ k', k = k' + 1 := ⟨k - 1, by omega⟩
    have hlt : pre.length < xs.length := by rw [hsp]; simp
    obtain ⟨hn, hG⟩ := hr r (by simp)
    cases hn with
    | mk n0 k0 b0 i0 u0 f0 s0 x1 hl1 hk1 =>
      have hc : ∀ h : pre.length < xs.length, xs[pre.length]'h = nodeV n0 k0 b0 i0 u0 f0 s0 x1 := by subst hsp; simp
      rw [step27 E cf G hP xs m k pre.length n0 k0 b0 i0 u0 f0 s0 x1 bx0 bx1 bx pre name kind b i u f s hlt hc hG (by omega) hxs]
      obtain ⟨bx', he⟩ := ih (pre ++ [nodeV n0 k0 b0 i0 u0 f0 s0 x1]) (bx ++ [nodeBox n0 k0 b0 i0 u0 f0 s0 (.sv (.sl x1))]) k (by rw [hsp]; simp) (fun v hv => hr v (by simp [hv])) (by simp at hk; omega)
      rw [show ((pre ++ [nodeV n0 k0 b0 i0 u0 f0 s0 x1]).length : Int) = ((pre.length + 1 : Nat) : Int) from by simp] at he
      exact ⟨bx', he⟩

theorem ev27 (E : Env) (h : E.code 27 = some c27) (G : List SV → Option AV) (hP : E.pure 27 = some G) (name : List UInt8) (kind : Int) (b : Bool) (i u : Int) (f : Nat) (s : List UInt8) (kids : List SV) (hl : kids.length < 1000000000) (hG : ∀ v ∈ kids, IsNode v ∧ G [v] = some (.sv v)) (n : Nat) (hn : kids.length < n) :
    evP E n 27 [nodeV name kind b i u f s kids] = some (.sv (nodeV name kind b i u f s kids)) := by
  unfold evP
  simp only [h]
  obtain ⟨bx', he⟩ := loop27 E (evF E n) G hP kids n hl (nodeBox name kind b i u f s (.sv (.sl kids))) zeroBox name kind b i u f s kids [] [] n rfl hG hn
  simp only [accC, List.replicate, List.cons_append, List.nil_append, List.length_nil, Int.ofNat_zero, Int.natCast_zero, nodeBox, zeroBox] at he
  cases kids with
  | nil => simp [accC] at he; simp [c27, List.replicate, nodeV, he, accC]
  | cons q qs => simp [accC] at he; simp [c27, List.replicate, nodeV, he, accC]

end Go.Ev

set_option linter.unusedSimpArgs false
set_option linter.unusedVariables false
namespace Go.Ev
open Go.Proofs

set_option maxHeartbeats 4000000 in
theorem loop26 (E : Env) (cf : CallF) (G : List SV → Option AV) (hP : E.pure 26 = some G) (xs : List SV) (m : Nat) (hxs : xs.length < 1000000000) (name : List UInt8) (kind : Int) (b : Bool) (i u : Int) (f : Nat) (s : List UInt8) :
    ∀ (rest pre : List SV) (k : Nat), xs = pre ++ rest → (∀ v ∈ rest, IsNode v ∧ G [v, v] = some (.sv (.bool true))) → rest.length < k →
      rounds (evC E cf m b26_0) k { tm := [.sv .undef, .sv .undef, .ptr 0 0, .ptr 1 0] ++ List.replicate 62 (.sv .undef) ++ [.sv (.int .i64 xs.length), .sv (.int .i64 pre.length)] ++ List.replicate 15 (.sv .undef), lz := none, bx := [nodeBox name kind b i u f s (.sv (.sl xs)), nodeBox name kind b i u f s (.sv (.sl xs))], df := [] } =
        some (.exit 0, { tm := List.replicate 83 (.sv .undef), lz := none, bx := [nodeBox name kind b i u f s (.sv (.sl xs)), nodeBox name kind b i u f s (.sv (.sl xs))], df := [] }) := by
  intro rest
  induction rest with
  | nil =>
    intro pre k hsp _ hk
    obtain ⟨k, rfl⟩ : ∃ k', k = k' + 1 := ⟨k - 1, by omega⟩
    have hlt : ¬ (pre.length < xs.length) := by rw [hsp]; simp
    simp [rounds, b26_0, List.replicate, hlt]
  | cons r rest ih =>
    intro pre k hsp hr hk
    obtain ⟨k, rfl⟩ : ∃ k', k = k' + 1 := ⟨k - 1, by omega⟩
    have hlt : pre.length < xs.length := by rw [hsp]; simp
    obtain ⟨hn, hG⟩ := hr r (by simp)
    cases hn with
    | mk n0 k0 b0 i0 u0 f0 s0 x1 hl1 hk1 =>
      have hc : ∀ h : pre.length < xs.length, xs[pre.length]'h = nodeV n0 k0 b0 i0 u0 f0 s0 x1 := by subst hsp; simp
      have hw2 : IntKind.i64.wrap ((pre.length : Int) + 1) = ((pre.length + 1 : Nat) : Int) := by rw [IntKind.wrap_i64]; omega
      have he := ih (pre ++ [nodeV n0 k0 b0 i0 u0 f0 s0 x1]) k (by rw [hsp]; simp) (fun v hv => hr v (by simp [hv])) (by simp at hk; omega)
      rw [show ((pre ++ [nodeV n0 k0 b0 i0 u0 f0 s0 x1]).length : Int) = ((pre.length + 1 : Nat) : Int) from by simp] at he
      rw [← he]
      simp only [nodeV] at hc hG
      simp [rounds, b26_0, List.replicate, hlt, hc, hP, hG, nodeBox, hw2]

end Go.Ev

set_option linter.unusedSimpArgs false
set_option linter.unusedVariables false
namespace Go.Ev
open Go.Proofs

def F75 : List SV → Option AV
  | [.flt .f64 b] => some (.sv (.int .u64 b))
  | _ => none

set_option maxHeartbeats 8000000 in
theorem ev26 (E : Env) (h : E.code 26 = some c26) (G : List SV → Option AV) (hP : E.pure 26 = some G) (h75 : E.pure 75 = some F75) (name : List UInt8) (kind : Int) (b : Bool) (i u : Int) (f : Nat) (s : List UInt8) (kids : List SV) (hl : kids.length < 1000000000) (hG : ∀ v ∈ kids, IsNode v ∧ G [v, v] = some (.sv (.bool true))) (n : Nat) (hn : kids.length < n) :
    evP E n 26 [nodeV name kind b i u f s kids, nodeV name kind b i u f s kids] = some (.sv (.bool true)) := by
  unfold evP
  simp only [h]
  have he := loop26 E (evF E n) G hP kids n hl name kind b i u f s kids [] n rfl hG hn
  simp only [List.replicate, List.cons_append, List.nil_append, List.length_nil, Int.ofNat_zero, Int.natCast_zero, nodeBox] at he
  simp [c26, List.replicate, nodeV, he, h75, F75]

end Go.Ev

set_option linter.unusedSimpArgs false
set_option linter.unusedVariables false
namespace Go.Ev
open Go.Proofs

theorem ev38 (E : Env) (h : E.code 38 = some c38) (s : List UInt8) (n : Nat) : evP E n 38 [.str s] = some (.sv (.agg [.str s])) := by
  unfold evP
  simp only [h]
  simp [c38, List.replicate]

theorem ev85 (E : Env) (h : E.code 85 = some c85) (s : List UInt8) (l : List SV) (n : Nat) : evP E n 85 [.str s, .sl l] = some (.sv (.str s)) := by
  unfold evP
  simp only [h]
  simp [c85, List.replicate]

theorem ev99 (E : Env) (h : E.code 99 = some c99) (s : List UInt8) (hs : s.length ≤ 1048576) (n : Nat) : evP E n 99 [.str s] = some (.sv (.tup [.sl (bytesSV s), .nilI])) := by
  unfold evP
  simp only [h]
  have e : ¬ ((1048576 : Int) < (s.length : Int)) := by omega
  simp [c99, List.replicate, e]

def F38 : List SV → Option AV
  | [.str s] => some (.sv (.agg [.str s]))
  | _ => none
def F85 : List SV → Option AV
  | [.str s, .sl _] => some (.sv (.str s))
  | _ => none
noncomputable def F99 : List SV → Option AV
  | [.str s] => onlyIf (s.length ≤ 1048576) (some (.sv (.tup [.sl (bytesSV s), .nilI])))
  | _ => none

end Go.Ev

set_option linter.unusedSimpArgs false
set_option linter.unusedVariables false
namespace Go.Ev
open Go.Proofs

theorem ev144 (E : Env) (h : E.code 144 = some c144) (n : Nat) (s w : List UInt8) : evP E n 144 [.str s, .str w] = some (.sv (.bool (decide (w.length ≤ s.length) && (s.take w.length == w)))) := by
  unfold evP
  simp only [h]
  by_cases h1 : w.length ≤ s.length
  · simp [c144, h1, List.replicate]
  · simp [c144, h1, List.replicate]

def F144 : List SV → Option AV
  | [.str s, .str w] => some (.sv (.bool (decide (w.length ≤ s.length) && (s.take w.length == w))))
  | _ => none

theorem ev130 (E : Env) (h : E.code 130 = some c130) (hP : E.pure 144 = some F144) (n : Nat) (s w : List UInt8) : evP E n 130 [.str s, .str w] = some (.sv (.bool (decide (w.length ≤ s.length) && (s.take w.length == w)))) := by
  unfold evP
  simp only [h]
  simp [c130, hP, F144, List.replicate]

/-- A scanner's box: what is left, the line, the longest line, the error. -/
def scanBox (left line : List UInt8) : Box := .live [.sv (.str left), .sv (.str line), .sv (.int .i64 65536), .sv .nilI]

theorem evF90 (E : Env) (h : E.code 90 = some c90) (n i : Nat) (bx : List Box) (l t : List UInt8) (hb : bx[i]? = some (scanBox l t)) : evF E (n + 1) 90 [.ptr i 0] bx = some (.sv (.str t), bx) := by
  simp only [evF, h]
  simp only [scanBox] at hb
  simp [c90, List.replicate, hb]

theorem evF128 (E : Env) (h : E.code 128 = some c128) (n i : Nat) (bx : List Box) (l t : List UInt8) (hb : bx[i]? = some (scanBox l t)) : evF E (n + 1) 128 [.ptr i 0] bx = some (.sv .nilI, bx) := by
  simp only [evF, h]
  simp only [scanBox] at hb
  simp [c128, List.replicate, hb]

theorem evF87 (E : Env) (h : E.code 87 = some c87) (n : Nat) (bx : List Box) (s : List UInt8) : evF E (n + 1) 87 [.sv (.str s)] bx = some (.ptr bx.length 0, bx ++ [scanBox s []]) := by
  simp only [evF, h]
  simp [c87, List.replicate, scanBox]

end Go.Ev

set_option linter.unusedSimpArgs false
set_option linter.unusedVariables false
namespace Go.Ev
open Go.Proofs

theorem loop88 (E : Env) (cf : CallF) (i : Nat) (bx : List Box) (left after_ : List UInt8) (m : Nat) (hb : bx[i]? = some (scanBox left [])) :
    ∀ (rest pre : List UInt8) (k : Nat), left = pre ++ rest ++ 10 :: after_ → left.length < 9223372036854775807 → (∀ c ∈ rest, c.toNat ≠ 10) → rest.length < k →
      rounds (evC E cf m b88_0) k { tm := [.ptr i 0, .sv .undef, .sv .undef, .sv (.int .i64 pre.length)] ++ List.replicate 104 (.sv .undef), lz := none, bx := bx, df := [] } =
        some (.exit 0, { tm := [.ptr i 0, .sv .undef, .sv .undef, .sv (.int .i64 (pre ++ rest).length)] ++ List.replicate 104 (.sv .undef), lz := none, bx := bx, df := [] }) := by
  simp only [scanBox] at hb
  intro rest
  induction rest with
  | nil =>
    intro pre k hsp hl hr hk
    obtain ⟨k, rfl⟩ : ∃ k', k = k' + 1 := ⟨k - 1, by omega⟩
    have hlt : pre.length < left.length := by rw [hsp]; simp
    have hc : ∀ h : pre.length < left.length, left[pre.length]'h = 10 := by subst hsp; simp
    simp [rounds, b88_0, List.replicate, hb, hlt, hc]
  | cons c rest ih =>
    intro pre k hsp hl hr hk
    obtain ⟨k, rfl⟩ : ∃ k', k = k' + 1 := ⟨k - 1, by omega⟩
    have hlt : pre.length < left.length := by rw [hsp]; simp
    have hc : ∀ h : pre.length < left.length, left[pre.length]'h = c := by subst hsp; simp
    have hne : ¬ (c.toNat : Int) = 10 := by have := hr c (by simp); omega
    have hneb : ((c.toNat : Int) == 10) = false := by simpa using hne
    have hnec : ((c.toNat : Int) != 10) = true := by simpa using hne
    have hw2 : IntKind.i64.wrap ((pre.length : Int) + 1) = ((pre ++ [c]).length : Int) := by rw [IntKind.wrap_i64]; simp; omega
    have := ih (pre ++ [c]) k (by rw [hsp]; simp) hl (fun x hx => hr x (by simp [hx])) (by simp at hk; omega)
    rw [show pre ++ [c] ++ rest = pre ++ c :: rest from by simp] at this
    rw [← this]
    simp [rounds, b88_0, List.replicate, hb, hlt, hc, hne, hneb, hnec, hw2]

/-- The next line. -/
theorem scan88 (E : Env) (h : E.code 88 = some c88) (i : Nat) (bx : List Box) (line after_ t : List UInt8) (hb : bx[i]? = some (scanBox (line ++ 10 :: after_) t)) (hl : line.length < 65536) (hal : after_.length < 1000000000) (hr : ∀ c ∈ line, c.toNat ≠ 10 ∧ c.toNat ≠ 13) (n : Nat) (hn : line.length < n) :
    evF E (n + 1) 88 [.ptr i 0] bx = some (.sv (.bool true), bx.set i (scanBox after_ line)) := by
  have hil : i < bx.length := (List.getElem?_eq_some_iff.1 hb).1
  have hb1 : (bx.set i (scanBox (line ++ 10 :: after_) []))[i]? = some (scanBox (line ++ 10 :: after_) []) := by simp [hil]
  have he := loop88 E (evF E n) i (bx.set i (scanBox (line ++ 10 :: after_) [])) (line ++ 10 :: after_) after_ n hb1 line [] n rfl (by simp; omega) (fun c hc => (hr c hc).1) hn
  simp only [scanBox, List.replicate, List.cons_append, List.nil_append, List.length_nil, Int.ofNat_zero, Int.natCast_zero] at he hb
  have hbi : ∀ h : i < bx.length, bx[i]'h = .live [.sv (.str (line ++ 10 :: after_)), .sv (.str t), .sv (.int .i64 65536), .sv .nilI] := fun h => by
    rw [List.getElem?_eq_getElem h] at hb; exact Option.some.inj hb
  have hw : IntKind.i64.wrap ((line.length : Int) + 1) = ((line.length + 1 : Nat) : Int) := by rw [IntKind.wrap_i64]; omega
  have g1 : ¬ (65536 : Int) ≤ (line.length : Int) := by omega
  have g2 : (line.length : Int) ≤ (line.length : Int) + ((after_.length : Int) + 1) := by omega
  have g3 : (line.length : Int) < (line.length : Int) + ((after_.length : Int) + 1) := by omega
  have g4 : (line.length : Int) + 1 ≤ (line.length : Int) + ((after_.length : Int) + 1) := by omega
  have g5 : (0 : Int) ≤ (line.length : Int) + ((after_.length : Int) + 1) := by omega
  have g6 : (0 : Int) ≤ (line.length : Int) + 1 := by omega
  have g7 : (line.length : Int) + 1 ≤ max ((line.length : Int) + ((after_.length : Int) + 1)) 0 := by omega
  have g8 : ((line.length : Int) + ((after_.length : Int) + 1)).toNat = line.length + (after_.length + 1) := by omega
  have ht : List.take line.length (line ++ 10 :: after_) = line := by simp
  have hd : List.drop (line.length + 1) (line ++ 10 :: after_) = after_ := by simp
  have hta : List.take (line.length + (after_.length + 1)) (line ++ 10 :: after_) = line ++ 10 :: after_ := List.take_of_length_le (by simp)
  simp only [evF, h]
  by_cases hl0 : line = []
  · subst hl0
    simp at *
    simp [c88, List.replicate, hbi, hil, he, scanBox, hw, g1, g2, g3, g4, g5, g6, ht, hd, hta]
  · have hpos : 0 < line.length := by
      cases line with
      | nil => exact absurd rfl hl0
      | cons x xs => simp
    have hposI : (0 : Int) < (line.length : Int) := by omega
    have wm : IntKind.i64.wrap ((line.length : Int) - 1) = ((line.length - 1 : Nat) : Int) := by rw [IntKind.wrap_i64]; omega
    have hlt1 : line.length - 1 < line.length := by omega
    have hlast := (hr (line[line.length - 1]'hlt1) (List.getElem_mem hlt1)).2
    have hl13 : ¬ ((line[line.length - 1]'hlt1).toNat : Int) = 13 := by omega
    have hl13b : (((line[line.length - 1]'hlt1).toNat : Int) == 13) = false := by simpa using hl13
    simp [c88, List.replicate, hbi, hil, he, scanBox, hw, g1, g2, g3, g4, g5, g6, ht, hd, hta, hpos, hposI, wm, hlt1, hl13, hl13b, g7, g8]

end Go.Ev

set_option linter.unusedSimpArgs false
set_option linter.unusedVariables false
namespace Go.Ev
open Go.Proofs

theorem scan88e (E : Env) (h : E.code 88 = some c88) (i : Nat) (bx : List Box) (t : List UInt8) (hb : bx[i]? = some (scanBox [] t)) (n : Nat) :
    evF E (n + 1) 88 [.ptr i 0] bx = some (.sv (.bool false), bx.set i (scanBox [] [])) := by
  have hil : i < bx.length := (List.getElem?_eq_some_iff.1 hb).1
  simp only [scanBox] at hb
  have hbi : ∀ h : i < bx.length, bx[i]'h = .live [.sv (.str []), .sv (.str t), .sv (.int .i64 65536), .sv .nilI] := fun h => by
    rw [List.getElem?_eq_getElem h] at hb; exact Option.some.inj hb
  simp only [evF, h]
  simp [c88, List.replicate, hbi, hil, scanBox]

end Go.Ev
