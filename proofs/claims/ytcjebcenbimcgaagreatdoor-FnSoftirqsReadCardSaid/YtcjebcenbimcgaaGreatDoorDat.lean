/- Softirqs: one line of each case. -/
/- Softirqs: the ten lines, whole. -/
/- Softirqs: the door. -/
/- Softirqs: the written text read again. -/
/- Softirqs: a written table is one that the door reads. -/
/- Softirqs: the laws. -/
/- Numbers of base 16, and of any base by their writing; texts split: the program's functions. -/
/- Texts split at a sign, addresses: the program's functions. -/
/- Slabs: the door: numbers, blanks, a word in a text. -/
/- Entries of softirqs. -/
/- What the listed variables hold, in the evaluator's words. -/
import Derived.Test.YtcjebcenbimcgaaGreatDoorDar
import Derived.Test.YtcjebcenbimcgaaGreatDoorDap
import Derived.Test.YtcjebcenbimcgaaGreatDoorDaq
import Derived.Test.YtcjebcenbimcgaaGreatDoorDao
import Derived.Test.YtcjebcenbimcgaaGreatDoorDag
import Derived.ProofKit
import Derived.OpenShut
import Derived.LaidMore
set_option linter.unusedSimpArgs false
set_option linter.unusedVariables false
namespace Go.Ev
open Go.Proofs

def stL (cs : List Cell) (z0 : Box) (s t : List UInt8) (zs : List Box) : SA := { nt := 357, tm := [(5, .ptr 2 0), (4, .ptr 1 0), (2, .ptr 0 0)], lz := none, bx := z0 :: .live cs :: scanBox s t :: zs, df := [], lk := true }

theorem scanGz (E : Env) (h : E.code 117 = some c88) (s t line rest : List UInt8) (h1 : ∀ c ∈ line, c.toNat ≠ 10) (h3 : s = line ++ 10 :: rest) (hl : s.length < 65536) (hr : ∀ c ∈ s, c.toNat ≠ 13) (b0 b1 : Box) (zs : List Box) (n : Nat) (hn : s.length < n) :
    evF E (n + 1) 117 [.ptr 2 0] (b0 :: b1 :: scanBox s t :: zs) = some (.sv (.bool true), b0 :: b1 :: scanBox rest line :: zs) := by
  subst h3
  simp only [List.length_append, List.length_cons] at hl hn
  exact scan88 E h 2 (b0 :: b1 :: scanBox (line ++ 10 :: rest) t :: zs) line rest t rfl (by omega) (by omega) (fun c hc => ⟨h1 c hc, hr c (by simp [hc])⟩) n (by omega)

theorem uni_strs (l : List (List UInt8)) : uni 1 (strs l) = true := by
  unfold uni strs
  rw [List.all_map, List.all_eq_true]
  intro x _
  rfl

set_option maxHeartbeats 8000000 in
theorem lineO0 (E : Env) (N m : Nat) (h88 : E.code 117 = some c88) (h90 : E.code 119 = some c90) (h127 : E.pure 152 = some F127) (hp88 : E.pure 117 = none) (hp90 : E.pure 119 = none) (FP : List SV → Option AV) (hp : E.pure 120 = some FP) (hF : ∀ n : Nat, n < 18446744073709551616 → FP [.str (decS n), .int .i64 10, .int .i64 64] = some (.sv (.tup [.int .u64 (n : Int), .nilI])))
    (ns : List Nat) (hne : 0 < ns.length) (hl : ns.length < 1000000) (hn : ∀ n ∈ ns, n < 18446744073709551616) (s t line rest : List UInt8) (h1 : ∀ c ∈ line, c.toNat ≠ 10) (h3 : s = line ++ 10 :: rest) (hs : s.length < 65536) (hr : ∀ c ∈ s, c.toNat ≠ 13) (hN : s.length < N)
    (hF1 : F127 [.str line] = some (.sv (.sl (.str [72, 73, 58] :: strs (ns.map decS))))) (c : Nat → Cell) (z0 : Box) (zs : List Box) (hm : ns.length < m) :
    evCA E (evF E (N + 1)) m b100_10 (stL [c 0, c 1, c 2, c 3, c 4, c 5, c 6, c 7, c 8, c 9] z0 s t zs) = some (.normal, stL [.lrw (zs.length + 1 + 1 + 1) ns.length 1, c 1, c 2, c 3, c 4, c 5, c 6, c 7, c 8, c 9] z0 rest line (zs ++ [.live (siRow ns 0)])) := by
  have hsc := scanGz E h88 s t line rest h1 h3 hs hr z0 (.live [c 0, c 1, c 2, c 3, c 4, c 5, c 6, c 7, c 8, c 9]) zs N hN
  have htx := evF90 E h90 N 2 (z0 :: .live [c 0, c 1, c 2, c 3, c 4, c 5, c 6, c 7, c 8, c 9] :: scanBox rest line :: zs) rest line rfl
  have he := loopO0 E (evF E (N + 1)) m FP hp hF ns hl hn c z0 (scanBox rest line) zs ns [] m rfl hm
  have hu : ∀ x : SV, x ∈ strs (ns.map decS) → x.cells.length = 1 := fun x hx => by
    obtain ⟨y, _, rfl⟩ := List.mem_map.1 hx
    rfl
  have hd : (strs (ns.map decS)).length = ns.length := by simp [strs]
  have e5 : (1 : Int) ≤ (ns.length : Int) + 1 := by omega
  have e1 : ¬ ((ns.length : Int) + 1 < 2) := by omega
  have e2 : (0 : Int) ≤ (ns.length : Int) + 1 := by omega
  have e3 : (ns.length : Int) * 8 ≤ 70368744177664 := by omega
  have e4 : (ns.length : Int) ≤ 70368744177664 := by omega
  have hrow : ∀ n : Nat, siRow [] n = List.replicate n (Cell.sv (.int .u64 0)) := fun n => by simp [siRow]
  simp only [stO0, List.length_nil, Int.ofNat_zero, Int.natCast_zero, hd, hrow] at he
  generalize strs (ns.map decS) = ds at *
  have ht : ds.take ns.length = ds := by rw [← hd, List.take_length]
  have hP : (∀ x : SV, x ∈ ds → x.cells.length = 1) = True := eq_true hu
  simp only [SV.cells] at hP
  simp only [scanBox] at hsc htx he
  simp [b100_10, stL, scanBox, hp88, hp90, hsc, htx, h127, hF1, hP, ht, hd, e5, e1, e2, e3, e4, he]

set_option maxHeartbeats 8000000 in
theorem lineO1 (E : Env) (N m : Nat) (h88 : E.code 117 = some c88) (h90 : E.code 119 = some c90) (h127 : E.pure 152 = some F127) (hp88 : E.pure 117 = none) (hp90 : E.pure 119 = none) (FP : List SV → Option AV) (hp : E.pure 120 = some FP) (hF : ∀ n : Nat, n < 18446744073709551616 → FP [.str (decS n), .int .i64 10, .int .i64 64] = some (.sv (.tup [.int .u64 (n : Int), .nilI])))
    (ns : List Nat) (hne : 0 < ns.length) (hl : ns.length < 1000000) (hn : ∀ n ∈ ns, n < 18446744073709551616) (s t line rest : List UInt8) (h1 : ∀ c ∈ line, c.toNat ≠ 10) (h3 : s = line ++ 10 :: rest) (hs : s.length < 65536) (hr : ∀ c ∈ s, c.toNat ≠ 13) (hN : s.length < N)
    (hF1 : F127 [.str line] = some (.sv (.sl (.str [84, 73, 77, 69, 82, 58] :: strs (ns.map decS))))) (c : Nat → Cell) (z0 : Box) (zs : List Box) (hm : ns.length < m) :
    evCA E (evF E (N + 1)) m b100_10 (stL [c 0, c 1, c 2, c 3, c 4, c 5, c 6, c 7, c 8, c 9] z0 s t zs) = some (.normal, stL [c 0, .lrw (zs.length + 1 + 1 + 1) ns.length 1, c 2, c 3, c 4, c 5, c 6, c 7, c 8, c 9] z0 rest line (zs ++ [.live (siRow ns 0)])) := by
  have hsc := scanGz E h88 s t line rest h1 h3 hs hr z0 (.live [c 0, c 1, c 2, c 3, c 4, c 5, c 6, c 7, c 8, c 9]) zs N hN
  have htx := evF90 E h90 N 2 (z0 :: .live [c 0, c 1, c 2, c 3, c 4, c 5, c 6, c 7, c 8, c 9] :: scanBox rest line :: zs) rest line rfl
  have he := loopO1 E (evF E (N + 1)) m FP hp hF ns hl hn c z0 (scanBox rest line) zs ns [] m rfl hm
  have hu : ∀ x : SV, x ∈ strs (ns.map decS) → x.cells.length = 1 := fun x hx => by
    obtain ⟨y, _, rfl⟩ := List.mem_map.1 hx
    rfl
  have hd : (strs (ns.map decS)).length = ns.length := by simp [strs]
  have e5 : (1 : Int) ≤ (ns.length : Int) + 1 := by omega
  have e1 : ¬ ((ns.length : Int) + 1 < 2) := by omega
  have e2 : (0 : Int) ≤ (ns.length : Int) + 1 := by omega
  have e3 : (ns.length : Int) * 8 ≤ 70368744177664 := by omega
  have e4 : (ns.length : Int) ≤ 70368744177664 := by omega
  have hrow : ∀ n : Nat, siRow [] n = List.replicate n (Cell.sv (.int .u64 0)) := fun n => by simp [siRow]
  simp only [stO1, List.length_nil, Int.ofNat_zero, Int.natCast_zero, hd, hrow] at he
  generalize strs (ns.map decS) = ds at *
  have ht : ds.take ns.length = ds := by rw [← hd, List.take_length]
  have hP : (∀ x : SV, x ∈ ds → x.cells.length = 1) = True := eq_true hu
  simp only [SV.cells] at hP
  simp only [scanBox] at hsc htx he
  simp [b100_10, stL, scanBox, hp88, hp90, hsc, htx, h127, hF1, hP, ht, hd, e5, e1, e2, e3, e4, he]

set_option maxHeartbeats 8000000 in
theorem lineO2 (E : Env) (N m : Nat) (h88 : E.code 117 = some c88) (h90 : E.code 119 = some c90) (h127 : E.pure 152 = some F127) (hp88 : E.pure 117 = none) (hp90 : E.pure 119 = none) (FP : List SV → Option AV) (hp : E.pure 120 = some FP) (hF : ∀ n : Nat, n < 18446744073709551616 → FP [.str (decS n), .int .i64 10, .int .i64 64] = some (.sv (.tup [.int .u64 (n : Int), .nilI])))
    (ns : List Nat) (hne : 0 < ns.length) (hl : ns.length < 1000000) (hn : ∀ n ∈ ns, n < 18446744073709551616) (s t line rest : List UInt8) (h1 : ∀ c ∈ line, c.toNat ≠ 10) (h3 : s = line ++ 10 :: rest) (hs : s.length < 65536) (hr : ∀ c ∈ s, c.toNat ≠ 13) (hN : s.length < N)
    (hF1 : F127 [.str line] = some (.sv (.sl (.str [78, 69, 84, 95, 84, 88, 58] :: strs (ns.map decS))))) (c : Nat → Cell) (z0 : Box) (zs : List Box) (hm : ns.length < m) :
    evCA E (evF E (N + 1)) m b100_10 (stL [c 0, c 1, c 2, c 3, c 4, c 5, c 6, c 7, c 8, c 9] z0 s t zs) = some (.normal, stL [c 0, c 1, .lrw (zs.length + 1 + 1 + 1) ns.length 1, c 3, c 4, c 5, c 6, c 7, c 8, c 9] z0 rest line (zs ++ [.live (siRow ns 0)])) := by
  have hsc := scanGz E h88 s t line rest h1 h3 hs hr z0 (.live [c 0, c 1, c 2, c 3, c 4, c 5, c 6, c 7, c 8, c 9]) zs N hN
  have htx := evF90 E h90 N 2 (z0 :: .live [c 0, c 1, c 2, c 3, c 4, c 5, c 6, c 7, c 8, c 9] :: scanBox rest line :: zs) rest line rfl
  have he := loopO2 E (evF E (N + 1)) m FP hp hF ns hl hn c z0 (scanBox rest line) zs ns [] m rfl hm
  have hu : ∀ x : SV, x ∈ strs (ns.map decS) → x.cells.length = 1 := fun x hx => by
    obtain ⟨y, _, rfl⟩ := List.mem_map.1 hx
    rfl
  have hd : (strs (ns.map decS)).length = ns.length := by simp [strs]
  have e5 : (1 : Int) ≤ (ns.length : Int) + 1 := by omega
  have e1 : ¬ ((ns.length : Int) + 1 < 2) := by omega
  have e2 : (0 : Int) ≤ (ns.length : Int) + 1 := by omega
  have e3 : (ns.length : Int) * 8 ≤ 70368744177664 := by omega
  have e4 : (ns.length : Int) ≤ 70368744177664 := by omega
  have hrow : ∀ n : Nat, siRow [] n = List.replicate n (Cell.sv (.int .u64 0)) := fun n => by simp [siRow]
  simp only [stO2, List.length_nil, Int.ofNat_zero, Int.natCast_zero, hd, hrow] at he
  generalize strs (ns.map decS) = ds at *
  have ht : ds.take ns.length = ds := by rw [← hd, List.take_length]
  have hP : (∀ x : SV, x ∈ ds → x.cells.length = 1) = True := eq_true hu
  simp only [SV.cells] at hP
  simp only [scanBox] at hsc htx he
  simp [b100_10, stL, scanBox, hp88, hp90, hsc, htx, h127, hF1, hP, ht, hd, e5, e1, e2, e3, e4, he]

set_option maxHeartbeats 8000000 in
theorem lineO3 (E : Env) (N m : Nat) (h88 : E.code 117 = some c88) (h90 : E.code 119 = some c90) (h127 : E.pure 152 = some F127) (hp88 : E.pure 117 = none) (hp90 : E.pure 119 = none) (FP : List SV → Option AV) (hp : E.pure 120 = some FP) (hF : ∀ n : Nat, n < 18446744073709551616 → FP [.str (decS n), .int .i64 10, .int .i64 64] = some (.sv (.tup [.int .u64 (n : Int), .nilI])))
    (ns : List Nat) (hne : 0 < ns.length) (hl : ns.length < 1000000) (hn : ∀ n ∈ ns, n < 18446744073709551616) (s t line rest : List UInt8) (h1 : ∀ c ∈ line, c.toNat ≠ 10) (h3 : s = line ++ 10 :: rest) (hs : s.length < 65536) (hr : ∀ c ∈ s, c.toNat ≠ 13) (hN : s.length < N)
    (hF1 : F127 [.str line] = some (.sv (.sl (.str [78, 69, 84, 95, 82, 88, 58] :: strs (ns.map decS))))) (c : Nat → Cell) (z0 : Box) (zs : List Box) (hm : ns.length < m) :
    evCA E (evF E (N + 1)) m b100_10 (stL [c 0, c 1, c 2, c 3, c 4, c 5, c 6, c 7, c 8, c 9] z0 s t zs) = some (.normal, stL [c 0, c 1, c 2, .lrw (zs.length + 1 + 1 + 1) ns.length 1, c 4, c 5, c 6, c 7, c 8, c 9] z0 rest line (zs ++ [.live (siRow ns 0)])) := by
  have hsc := scanGz E h88 s t line rest h1 h3 hs hr z0 (.live [c 0, c 1, c 2, c 3, c 4, c 5, c 6, c 7, c 8, c 9]) zs N hN
  have htx := evF90 E h90 N 2 (z0 :: .live [c 0, c 1, c 2, c 3, c 4, c 5, c 6, c 7, c 8, c 9] :: scanBox rest line :: zs) rest line rfl
  have he := loopO3 E (evF E (N + 1)) m FP hp hF ns hl hn c z0 (scanBox rest line) zs ns [] m rfl hm
  have hu : ∀ x : SV, x ∈ strs (ns.map decS) → x.cells.length = 1 := fun x hx => by
    obtain ⟨y, _, rfl⟩ := List.mem_map.1 hx
    rfl
  have hd : (strs (ns.map decS)).length = ns.length := by simp [strs]
  have e5 : (1 : Int) ≤ (ns.length : Int) + 1 := by omega
  have e1 : ¬ ((ns.length : Int) + 1 < 2) := by omega
  have e2 : (0 : Int) ≤ (ns.length : Int) + 1 := by omega
  have e3 : (ns.length : Int) * 8 ≤ 70368744177664 := by omega
  have e4 : (ns.length : Int) ≤ 70368744177664 := by omega
  have hrow : ∀ n : Nat, siRow [] n = List.replicate n (Cell.sv (.int .u64 0)) := fun n => by simp [siRow]
  simp only [stO3, List.length_nil, Int.ofNat_zero, Int.natCast_zero, hd, hrow] at he
  generalize strs (ns.map decS) = ds at *
  have ht : ds.take ns.length = ds := by rw [← hd, List.take_length]
  have hP : (∀ x : SV, x ∈ ds → x.cells.length = 1) = True := eq_true hu
  simp only [SV.cells] at hP
  simp only [scanBox] at hsc htx he
  simp [b100_10, stL, scanBox, hp88, hp90, hsc, htx, h127, hF1, hP, ht, hd, e5, e1, e2, e3, e4, he]

set_option maxHeartbeats 8000000 in
theorem lineO4 (E : Env) (N m : Nat) (h88 : E.code 117 = some c88) (h90 : E.code 119 = some c90) (h127 : E.pure 152 = some F127) (hp88 : E.pure 117 = none) (hp90 : E.pure 119 = none) (FP : List SV → Option AV) (hp : E.pure 120 = some FP) (hF : ∀ n : Nat, n < 18446744073709551616 → FP [.str (decS n), .int .i64 10, .int .i64 64] = some (.sv (.tup [.int .u64 (n : Int), .nilI])))
    (ns : List Nat) (hne : 0 < ns.length) (hl : ns.length < 1000000) (hn : ∀ n ∈ ns, n < 18446744073709551616) (s t line rest : List UInt8) (h1 : ∀ c ∈ line, c.toNat ≠ 10) (h3 : s = line ++ 10 :: rest) (hs : s.length < 65536) (hr : ∀ c ∈ s, c.toNat ≠ 13) (hN : s.length < N)
    (hF1 : F127 [.str line] = some (.sv (.sl (.str [66, 76, 79, 67, 75, 58] :: strs (ns.map decS))))) (c : Nat → Cell) (z0 : Box) (zs : List Box) (hm : ns.length < m) :
    evCA E (evF E (N + 1)) m b100_10 (stL [c 0, c 1, c 2, c 3, c 4, c 5, c 6, c 7, c 8, c 9] z0 s t zs) = some (.normal, stL [c 0, c 1, c 2, c 3, .lrw (zs.length + 1 + 1 + 1) ns.length 1, c 5, c 6, c 7, c 8, c 9] z0 rest line (zs ++ [.live (siRow ns 0)])) := by
  have hsc := scanGz E h88 s t line rest h1 h3 hs hr z0 (.live [c 0, c 1, c 2, c 3, c 4, c 5, c 6, c 7, c 8, c 9]) zs N hN
  have htx := evF90 E h90 N 2 (z0 :: .live [c 0, c 1, c 2, c 3, c 4, c 5, c 6, c 7, c 8, c 9] :: scanBox rest line :: zs) rest line rfl
  have he := loopO4 E (evF E (N + 1)) m FP hp hF ns hl hn c z0 (scanBox rest line) zs ns [] m rfl hm
  have hu : ∀ x : SV, x ∈ strs (ns.map decS) → x.cells.length = 1 := fun x hx => by
    obtain ⟨y, _, rfl⟩ := List.mem_map.1 hx
    rfl
  have hd : (strs (ns.map decS)).length = ns.length := by simp [strs]
  have e5 : (1 : Int) ≤ (ns.length : Int) + 1 := by omega
  have e1 : ¬ ((ns.length : Int) + 1 < 2) := by omega
  have e2 : (0 : Int) ≤ (ns.length : Int) + 1 := by omega
  have e3 : (ns.length : Int) * 8 ≤ 70368744177664 := by omega
  have e4 : (ns.length : Int) ≤ 70368744177664 := by omega
  have hrow : ∀ n : Nat, siRow [] n = List.replicate n (Cell.sv (.int .u64 0)) := fun n => by simp [siRow]
  simp only [stO4, List.length_nil, Int.ofNat_zero, Int.natCast_zero, hd, hrow] at he
  generalize strs (ns.map decS) = ds at *
  have ht : ds.take ns.length = ds := by rw [← hd, List.take_length]
  have hP : (∀ x : SV, x ∈ ds → x.cells.length = 1) = True := eq_true hu
  simp only [SV.cells] at hP
  simp only [scanBox] at hsc htx he
  simp [b100_10, stL, scanBox, hp88, hp90, hsc, htx, h127, hF1, hP, ht, hd, e5, e1, e2, e3, e4, he]

set_option maxHeartbeats 8000000 in
theorem lineO5 (E : Env) (N m : Nat) (h88 : E.code 117 = some c88) (h90 : E.code 119 = some c90) (h127 : E.pure 152 = some F127) (hp88 : E.pure 117 = none) (hp90 : E.pure 119 = none) (FP : List SV → Option AV) (hp : E.pure 120 = some FP) (hF : ∀ n : Nat, n < 18446744073709551616 → FP [.str (decS n), .int .i64 10, .int .i64 64] = some (.sv (.tup [.int .u64 (n : Int), .nilI])))
    (ns : List Nat) (hne : 0 < ns.length) (hl : ns.length < 1000000) (hn : ∀ n ∈ ns, n < 18446744073709551616) (s t line rest : List UInt8) (h1 : ∀ c ∈ line, c.toNat ≠ 10) (h3 : s = line ++ 10 :: rest) (hs : s.length < 65536) (hr : ∀ c ∈ s, c.toNat ≠ 13) (hN : s.length < N)
    (hF1 : F127 [.str line] = some (.sv (.sl (.str [73, 82, 81, 95, 80, 79, 76, 76, 58] :: strs (ns.map decS))))) (c : Nat → Cell) (z0 : Box) (zs : List Box) (hm : ns.length < m) :
    evCA E (evF E (N + 1)) m b100_10 (stL [c 0, c 1, c 2, c 3, c 4, c 5, c 6, c 7, c 8, c 9] z0 s t zs) = some (.normal, stL [c 0, c 1, c 2, c 3, c 4, .lrw (zs.length + 1 + 1 + 1) ns.length 1, c 6, c 7, c 8, c 9] z0 rest line (zs ++ [.live (siRow ns 0)])) := by
  have hsc := scanGz E h88 s t line rest h1 h3 hs hr z0 (.live [c 0, c 1, c 2, c 3, c 4, c 5, c 6, c 7, c 8, c 9]) zs N hN
  have htx := evF90 E h90 N 2 (z0 :: .live [c 0, c 1, c 2, c 3, c 4, c 5, c 6, c 7, c 8, c 9] :: scanBox rest line :: zs) rest line rfl
  have he := loopO5 E (evF E (N + 1)) m FP hp hF ns hl hn c z0 (scanBox rest line) zs ns [] m rfl hm
  have hu : ∀ x : SV, x ∈ strs (ns.map decS) → x.cells.length = 1 := fun x hx => by
    obtain ⟨y, _, rfl⟩ := List.mem_map.1 hx
    rfl
  have hd : (strs (ns.map decS)).length = ns.length := by simp [strs]
  have e5 : (1 : Int) ≤ (ns.length : Int) + 1 := by omega
  have e1 : ¬ ((ns.length : Int) + 1 < 2) := by omega
  have e2 : (0 : Int) ≤ (ns.length : Int) + 1 := by omega
  have e3 : (ns.length : Int) * 8 ≤ 70368744177664 := by omega
  have e4 : (ns.length : Int) ≤ 70368744177664 := by omega
  have hrow : ∀ n : Nat, siRow [] n = List.replicate n (Cell.sv (.int .u64 0)) := fun n => by simp [siRow]
  simp only [stO5, List.length_nil, Int.ofNat_zero, Int.natCast_zero, hd, hrow] at he
  generalize strs (ns.map decS) = ds at *
  have ht : ds.take ns.length = ds := by rw [← hd, List.take_length]
  have hP : (∀ x : SV, x ∈ ds → x.cells.length = 1) = True := eq_true hu
  simp only [SV.cells] at hP
  simp only [scanBox] at hsc htx he
  simp [b100_10, stL, scanBox, hp88, hp90, hsc, htx, h127, hF1, hP, ht, hd, e5, e1, e2, e3, e4, he]

set_option maxHeartbeats 8000000 in
theorem lineO6 (E : Env) (N m : Nat) (h88 : E.code 117 = some c88) (h90 : E.code 119 = some c90) (h127 : E.pure 152 = some F127) (hp88 : E.pure 117 = none) (hp90 : E.pure 119 = none) (FP : List SV → Option AV) (hp : E.pure 120 = some FP) (hF : ∀ n : Nat, n < 18446744073709551616 → FP [.str (decS n), .int .i64 10, .int .i64 64] = some (.sv (.tup [.int .u64 (n : Int), .nilI])))
    (ns : List Nat) (hne : 0 < ns.length) (hl : ns.length < 1000000) (hn : ∀ n ∈ ns, n < 18446744073709551616) (s t line rest : List UInt8) (h1 : ∀ c ∈ line, c.toNat ≠ 10) (h3 : s = line ++ 10 :: rest) (hs : s.length < 65536) (hr : ∀ c ∈ s, c.toNat ≠ 13) (hN : s.length < N)
    (hF1 : F127 [.str line] = some (.sv (.sl (.str [84, 65, 83, 75, 76, 69, 84, 58] :: strs (ns.map decS))))) (c : Nat → Cell) (z0 : Box) (zs : List Box) (hm : ns.length < m) :
    evCA E (evF E (N + 1)) m b100_10 (stL [c 0, c 1, c 2, c 3, c 4, c 5, c 6, c 7, c 8, c 9] z0 s t zs) = some (.normal, stL [c 0, c 1, c 2, c 3, c 4, c 5, .lrw (zs.length + 1 + 1 + 1) ns.length 1, c 7, c 8, c 9] z0 rest line (zs ++ [.live (siRow ns 0)])) := by
  have hsc := scanGz E h88 s t line rest h1 h3 hs hr z0 (.live [c 0, c 1, c 2, c 3, c 4, c 5, c 6, c 7, c 8, c 9]) zs N hN
  have htx := evF90 E h90 N 2 (z0 :: .live [c 0, c 1, c 2, c 3, c 4, c 5, c 6, c 7, c 8, c 9] :: scanBox rest line :: zs) rest line rfl
  have he := loopO6 E (evF E (N + 1)) m FP hp hF ns hl hn c z0 (scanBox rest line) zs ns [] m rfl hm
  have hu : ∀ x : SV, x ∈ strs (ns.map decS) → x.cells.length = 1 := fun x hx => by
    obtain ⟨y, _, rfl⟩ := List.mem_map.1 hx
    rfl
  have hd : (strs (ns.map decS)).length = ns.length := by simp [strs]
  have e5 : (1 : Int) ≤ (ns.length : Int) + 1 := by omega
  have e1 : ¬ ((ns.length : Int) + 1 < 2) := by omega
  have e2 : (0 : Int) ≤ (ns.length : Int) + 1 := by omega
  have e3 : (ns.length : Int) * 8 ≤ 70368744177664 := by omega
  have e4 : (ns.length : Int) ≤ 70368744177664 := by omega
  have hrow : ∀ n : Nat, siRow [] n = List.replicate n (Cell.sv (.int .u64 0)) := fun n => by simp [siRow]
  simp only [stO6, List.length_nil, Int.ofNat_zero, Int.natCast_zero, hd, hrow] at he
  generalize strs (ns.map decS) = ds at *
  have ht : ds.take ns.length = ds := by rw [← hd, List.take_length]
  have hP : (∀ x : SV, x ∈ ds → x.cells.length = 1) = True := eq_true hu
  simp only [SV.cells] at hP
  simp only [scanBox] at hsc htx he
  simp [b100_10, stL, scanBox, hp88, hp90, hsc, htx, h127, hF1, hP, ht, hd, e5, e1, e2, e3, e4, he]

set_option maxHeartbeats 8000000 in
theorem lineO7 (E : Env) (N m : Nat) (h88 : E.code 117 = some c88) (h90 : E.code 119 = some c90) (h127 : E.pure 152 = some F127) (hp88 : E.pure 117 = none) (hp90 : E.pure 119 = none) (FP : List SV → Option AV) (hp : E.pure 120 = some FP) (hF : ∀ n : Nat, n < 18446744073709551616 → FP [.str (decS n), .int .i64 10, .int .i64 64] = some (.sv (.tup [.int .u64 (n : Int), .nilI])))
    (ns : List Nat) (hne : 0 < ns.length) (hl : ns.length < 1000000) (hn : ∀ n ∈ ns, n < 18446744073709551616) (s t line rest : List UInt8) (h1 : ∀ c ∈ line, c.toNat ≠ 10) (h3 : s = line ++ 10 :: rest) (hs : s.length < 65536) (hr : ∀ c ∈ s, c.toNat ≠ 13) (hN : s.length < N)
    (hF1 : F127 [.str line] = some (.sv (.sl (.str [83, 67, 72, 69, 68, 58] :: strs (ns.map decS))))) (c : Nat → Cell) (z0 : Box) (zs : List Box) (hm : ns.length < m) :
    evCA E (evF E (N + 1)) m b100_10 (stL [c 0, c 1, c 2, c 3, c 4, c 5, c 6, c 7, c 8, c 9] z0 s t zs) = some (.normal, stL [c 0, c 1, c 2, c 3, c 4, c 5, c 6, .lrw (zs.length + 1 + 1 + 1) ns.length 1, c 8, c 9] z0 rest line (zs ++ [.live (siRow ns 0)])) := by
  have hsc := scanGz E h88 s t line rest h1 h3 hs hr z0 (.live [c 0, c 1, c 2, c 3, c 4, c 5, c 6, c 7, c 8, c 9]) zs N hN
  have htx := evF90 E h90 N 2 (z0 :: .live [c 0, c 1, c 2, c 3, c 4, c 5, c 6, c 7, c 8, c 9] :: scanBox rest line :: zs) rest line rfl
  have he := loopO7 E (evF E (N + 1)) m FP hp hF ns hl hn c z0 (scanBox rest line) zs ns [] m rfl hm
  have hu : ∀ x : SV, x ∈ strs (ns.map decS) → x.cells.length = 1 := fun x hx => by
    obtain ⟨y, _, rfl⟩ := List.mem_map.1 hx
    rfl
  have hd : (strs (ns.map decS)).length = ns.length := by simp [strs]
  have e5 : (1 : Int) ≤ (ns.length : Int) + 1 := by omega
  have e1 : ¬ ((ns.length : Int) + 1 < 2) := by omega
  have e2 : (0 : Int) ≤ (ns.length : Int) + 1 := by omega
  have e3 : (ns.length : Int) * 8 ≤ 70368744177664 := by omega
  have e4 : (ns.length : Int) ≤ 70368744177664 := by omega
  have hrow : ∀ n : Nat, siRow [] n = List.replicate n (Cell.sv (.int .u64 0)) := fun n => by simp [siRow]
  simp only [stO7, List.length_nil, Int.ofNat_zero, Int.natCast_zero, hd, hrow] at he
  generalize strs (ns.map decS) = ds at *
  have ht : ds.take ns.length = ds := by rw [← hd, List.take_length]
  have hP : (∀ x : SV, x ∈ ds → x.cells.length = 1) = True := eq_true hu
  simp only [SV.cells] at hP
  simp only [scanBox] at hsc htx he
  simp [b100_10, stL, scanBox, hp88, hp90, hsc, htx, h127, hF1, hP, ht, hd, e5, e1, e2, e3, e4, he]

set_option maxHeartbeats 8000000 in
theorem lineO8 (E : Env) (N m : Nat) (h88 : E.code 117 = some c88) (h90 : E.code 119 = some c90) (h127 : E.pure 152 = some F127) (hp88 : E.pure 117 = none) (hp90 : E.pure 119 = none) (FP : List SV → Option AV) (hp : E.pure 120 = some FP) (hF : ∀ n : Nat, n < 18446744073709551616 → FP [.str (decS n), .int .i64 10, .int .i64 64] = some (.sv (.tup [.int .u64 (n : Int), .nilI])))
    (ns : List Nat) (hne : 0 < ns.length) (hl : ns.length < 1000000) (hn : ∀ n ∈ ns, n < 18446744073709551616) (s t line rest : List UInt8) (h1 : ∀ c ∈ line, c.toNat ≠ 10) (h3 : s = line ++ 10 :: rest) (hs : s.length < 65536) (hr : ∀ c ∈ s, c.toNat ≠ 13) (hN : s.length < N)
    (hF1 : F127 [.str line] = some (.sv (.sl (.str [72, 82, 84, 73, 77, 69, 82, 58] :: strs (ns.map decS))))) (c : Nat → Cell) (z0 : Box) (zs : List Box) (hm : ns.length < m) :
    evCA E (evF E (N + 1)) m b100_10 (stL [c 0, c 1, c 2, c 3, c 4, c 5, c 6, c 7, c 8, c 9] z0 s t zs) = some (.normal, stL [c 0, c 1, c 2, c 3, c 4, c 5, c 6, c 7, .lrw (zs.length + 1 + 1 + 1) ns.length 1, c 9] z0 rest line (zs ++ [.live (siRow ns 0)])) := by
  have hsc := scanGz E h88 s t line rest h1 h3 hs hr z0 (.live [c 0, c 1, c 2, c 3, c 4, c 5, c 6, c 7, c 8, c 9]) zs N hN
  have htx := evF90 E h90 N 2 (z0 :: .live [c 0, c 1, c 2, c 3, c 4, c 5, c 6, c 7, c 8, c 9] :: scanBox rest line :: zs) rest line rfl
  have he := loopO8 E (evF E (N + 1)) m FP hp hF ns hl hn c z0 (scanBox rest line) zs ns [] m rfl hm
  have hu : ∀ x : SV, x ∈ strs (ns.map decS) → x.cells.length = 1 := fun x hx => by
    obtain ⟨y, _, rfl⟩ := List.mem_map.1 hx
    rfl
  have hd : (strs (ns.map decS)).length = ns.length := by simp [strs]
  have e5 : (1 : Int) ≤ (ns.length : Int) + 1 := by omega
  have e1 : ¬ ((ns.length : Int) + 1 < 2) := by omega
  have e2 : (0 : Int) ≤ (ns.length : Int) + 1 := by omega
  have e3 : (ns.length : Int) * 8 ≤ 70368744177664 := by omega
  have e4 : (ns.length : Int) ≤ 70368744177664 := by omega
  have hrow : ∀ n : Nat, siRow [] n = List.replicate n (Cell.sv (.int .u64 0)) := fun n => by simp [siRow]
  simp only [stO8, List.length_nil, Int.ofNat_zero, Int.natCast_zero, hd, hrow] at he
  generalize strs (ns.map decS) = ds at *
  have ht : ds.take ns.length = ds := by rw [← hd, List.take_length]
  have hP : (∀ x : SV, x ∈ ds → x.cells.length = 1) = True := eq_true hu
  simp only [SV.cells] at hP
  simp only [scanBox] at hsc htx he
  simp [b100_10, stL, scanBox, hp88, hp90, hsc, htx, h127, hF1, hP, ht, hd, e5, e1, e2, e3, e4, he]

set_option maxHeartbeats 8000000 in
theorem lineO9 (E : Env) (N m : Nat) (h88 : E.code 117 = some c88) (h90 : E.code 119 = some c90) (h127 : E.pure 152 = some F127) (hp88 : E.pure 117 = none) (hp90 : E.pure 119 = none) (FP : List SV → Option AV) (hp : E.pure 120 = some FP) (hF : ∀ n : Nat, n < 18446744073709551616 → FP [.str (decS n), .int .i64 10, .int .i64 64] = some (.sv (.tup [.int .u64 (n : Int), .nilI])))
    (ns : List Nat) (hne : 0 < ns.length) (hl : ns.length < 1000000) (hn : ∀ n ∈ ns, n < 18446744073709551616) (s t line rest : List UInt8) (h1 : ∀ c ∈ line, c.toNat ≠ 10) (h3 : s = line ++ 10 :: rest) (hs : s.length < 65536) (hr : ∀ c ∈ s, c.toNat ≠ 13) (hN : s.length < N)
    (hF1 : F127 [.str line] = some (.sv (.sl (.str [82, 67, 85, 58] :: strs (ns.map decS))))) (c : Nat → Cell) (z0 : Box) (zs : List Box) (hm : ns.length < m) :
    evCA E (evF E (N + 1)) m b100_10 (stL [c 0, c 1, c 2, c 3, c 4, c 5, c 6, c 7, c 8, c 9] z0 s t zs) = some (.normal, stL [c 0, c 1, c 2, c 3, c 4, c 5, c 6, c 7, c 8, .lrw (zs.length + 1 + 1 + 1) ns.length 1] z0 rest line (zs ++ [.live (siRow ns 0)])) := by
  have hsc := scanGz E h88 s t line rest h1 h3 hs hr z0 (.live [c 0, c 1, c 2, c 3, c 4, c 5, c 6, c 7, c 8, c 9]) zs N hN
  have htx := evF90 E h90 N 2 (z0 :: .live [c 0, c 1, c 2, c 3, c 4, c 5, c 6, c 7, c 8, c 9] :: scanBox rest line :: zs) rest line rfl
  have he := loopO9 E (evF E (N + 1)) m FP hp hF ns hl hn c z0 (scanBox rest line) zs ns [] m rfl hm
  have hu : ∀ x : SV, x ∈ strs (ns.map decS) → x.cells.length = 1 := fun x hx => by
    obtain ⟨y, _, rfl⟩ := List.mem_map.1 hx
    rfl
  have hd : (strs (ns.map decS)).length = ns.length := by simp [strs]
  have e5 : (1 : Int) ≤ (ns.length : Int) + 1 := by omega
  have e1 : ¬ ((ns.length : Int) + 1 < 2) := by omega
  have e2 : (0 : Int) ≤ (ns.length : Int) + 1 := by omega
  have e3 : (ns.length : Int) * 8 ≤ 70368744177664 := by omega
  have e4 : (ns.length : Int) ≤ 70368744177664 := by omega
  have hrow : ∀ n : Nat, siRow [] n = List.replicate n (Cell.sv (.int .u64 0)) := fun n => by simp [siRow]
  simp only [stO9, List.length_nil, Int.ofNat_zero, Int.natCast_zero, hd, hrow] at he
  generalize strs (ns.map decS) = ds at *
  have ht : ds.take ns.length = ds := by rw [← hd, List.take_length]
  have hP : (∀ x : SV, x ∈ ds → x.cells.length = 1) = True := eq_true hu
  simp only [SV.cells] at hP
  simp only [scanBox] at hsc htx he
  simp [b100_10, stL, scanBox, hp88, hp90, hsc, htx, h127, hF1, hP, ht, hd, e5, e1, e2, e3, e4, he]

end Go.Ev

set_option linter.unusedSimpArgs false
set_option linter.unusedVariables false
namespace Go.Ev
open Go.Proofs

/-- A line's head. -/
def siHd : Nat → List UInt8
  | 0 => [72, 73, 58]
  | 1 => [84, 73, 77, 69, 82, 58]
  | 2 => [78, 69, 84, 95, 84, 88, 58]
  | 3 => [78, 69, 84, 95, 82, 88, 58]
  | 4 => [66, 76, 79, 67, 75, 58]
  | 5 => [73, 82, 81, 95, 80, 79, 76, 76, 58]
  | 6 => [84, 65, 83, 75, 76, 69, 84, 58]
  | 7 => [83, 67, 72, 69, 68, 58]
  | 8 => [72, 82, 84, 73, 77, 69, 82, 58]
  | 9 => [82, 67, 85, 58]
  | _ => []

def siTail (L : Nat → List UInt8) : Nat → Nat → List UInt8
  | _, 0 => []
  | k, n + 1 => L k ++ 10 :: siTail L (k + 1) n

/-- The lines from the k-th on. -/
def siRest (L : Nat → List UInt8) (k : Nat) : List UInt8 := siTail L k (10 - k)

def ci (a : Nat → List Nat) (k j : Nat) : Cell := if j < k then .lrw (j + 3) (a j).length 1 else .sv .nilS

def siC (a : Nat → List Nat) (k : Nat) : List Cell := [ci a k 0, ci a k 1, ci a k 2, ci a k 3, ci a k 4, ci a k 5, ci a k 6, ci a k 7, ci a k 8, ci a k 9]

structure SiOK (hdr : List UInt8) (L : Nat → List UInt8) (a : Nat → List Nat) : Prop where
  len : (hdr ++ 10 :: siRest L 0).length < 65536
  h10 : ∀ c ∈ hdr, c.toNat ≠ 10
  h13 : ∀ c ∈ hdr ++ 10 :: siRest L 0, c.toNat ≠ 13
  l10 : ∀ k, k < 10 → ∀ c ∈ L k, c.toNat ≠ 10
  pos : ∀ k, k < 10 → 0 < (a k).length
  cnt : ∀ k, k < 10 → (a k).length < 65536
  bnd : ∀ k, k < 10 → ∀ n ∈ a k, n < 18446744073709551616
  fld : ∀ k, k < 10 → F127 [.str (L k)] = some (.sv (.sl (.str (siHd k) :: strs ((a k).map decS))))

theorem siRest_suf (L : Nat → List UInt8) : ∀ k, k ≤ 10 → ∃ p, siRest L 0 = p ++ siRest L k := by
  intro k hk
  rcases k with _ | _ | _ | _ | _ | _ | _ | _ | _ | _ | _ | k
  · exact ⟨[], by simp [siRest, siTail]⟩
  · exact ⟨(L 0 ++ [10]), by simp [siRest, siTail]⟩
  · exact ⟨(L 0 ++ [10]) ++ (L 1 ++ [10]), by simp [siRest, siTail]⟩
  · exact ⟨(L 0 ++ [10]) ++ (L 1 ++ [10]) ++ (L 2 ++ [10]), by simp [siRest, siTail]⟩
  · exact ⟨(L 0 ++ [10]) ++ (L 1 ++ [10]) ++ (L 2 ++ [10]) ++ (L 3 ++ [10]), by simp [siRest, siTail]⟩
  · exact ⟨(L 0 ++ [10]) ++ (L 1 ++ [10]) ++ (L 2 ++ [10]) ++ (L 3 ++ [10]) ++ (L 4 ++ [10]), by simp [siRest, siTail]⟩
  · exact ⟨(L 0 ++ [10]) ++ (L 1 ++ [10]) ++ (L 2 ++ [10]) ++ (L 3 ++ [10]) ++ (L 4 ++ [10]) ++ (L 5 ++ [10]), by simp [siRest, siTail]⟩
  · exact ⟨(L 0 ++ [10]) ++ (L 1 ++ [10]) ++ (L 2 ++ [10]) ++ (L 3 ++ [10]) ++ (L 4 ++ [10]) ++ (L 5 ++ [10]) ++ (L 6 ++ [10]), by simp [siRest, siTail]⟩
  · exact ⟨(L 0 ++ [10]) ++ (L 1 ++ [10]) ++ (L 2 ++ [10]) ++ (L 3 ++ [10]) ++ (L 4 ++ [10]) ++ (L 5 ++ [10]) ++ (L 6 ++ [10]) ++ (L 7 ++ [10]), by simp [siRest, siTail]⟩
  · exact ⟨(L 0 ++ [10]) ++ (L 1 ++ [10]) ++ (L 2 ++ [10]) ++ (L 3 ++ [10]) ++ (L 4 ++ [10]) ++ (L 5 ++ [10]) ++ (L 6 ++ [10]) ++ (L 7 ++ [10]) ++ (L 8 ++ [10]), by simp [siRest, siTail]⟩
  · exact ⟨(L 0 ++ [10]) ++ (L 1 ++ [10]) ++ (L 2 ++ [10]) ++ (L 3 ++ [10]) ++ (L 4 ++ [10]) ++ (L 5 ++ [10]) ++ (L 6 ++ [10]) ++ (L 7 ++ [10]) ++ (L 8 ++ [10]) ++ (L 9 ++ [10]), by simp [siRest, siTail]⟩
  · omega

set_option maxHeartbeats 4000000 in
theorem loopL (E : Env) (N m : Nat) (h88 : E.code 117 = some c88) (h90 : E.code 119 = some c90) (h127 : E.pure 152 = some F127) (hp88 : E.pure 117 = none) (hp90 : E.pure 119 = none) (FP : List SV → Option AV) (hp : E.pure 120 = some FP) (hF : ∀ n : Nat, n < 18446744073709551616 → FP [.str (decS n), .int .i64 10, .int .i64 64] = some (.sv (.tup [.int .u64 (n : Int), .nilI])))
    (hdr : List UInt8) (L : Nat → List UInt8) (a : Nat → List Nat) (hok : SiOK hdr L a) (hN : (hdr ++ 10 :: siRest L 0).length < N) (hm : 65536 ≤ m) (z0 : Box) :
    roundsA (evCA E (evF E (N + 1)) m b100_10) m (stL (siC a 0) z0 (siRest L 0) hdr []) = some (.exit 0, { nt := 357, tm := [(5, .ptr 2 0), (4, .ptr 1 0), (2, .ptr 0 0)], lz := none, bx := z0 :: .live (siC a 10) :: scanBox [] [] :: [.live (siRow (a 0) 0), .live (siRow (a 1) 0), .live (siRow (a 2) 0), .live (siRow (a 3) 0), .live (siRow (a 4) 0), .live (siRow (a 5) 0), .live (siRow (a 6) 0), .live (siRow (a 7) 0), .live (siRow (a 8) 0), .live (siRow (a 9) 0)], df := [], lk := true }) := by
  obtain ⟨m', rfl⟩ : ∃ m', m = m' + 11 := ⟨m - 11, by omega⟩
  have hsl : ∀ k, k ≤ 10 → (siRest L k).length < 65536 ∧ (siRest L k).length < N ∧ ∀ c ∈ siRest L k, c.toNat ≠ 13 := by
    intro k hk
    obtain ⟨p, e⟩ := siRest_suf L k hk
    have h1 := hok.len
    have h2 := hok.h13
    rw [e] at h1 h2 hN
    simp only [List.length_append, List.length_cons] at h1 hN
    exact ⟨by omega, by omega, fun c hc => h2 c (by simp [hc])⟩
  have s0 : evCA E (evF E (N + 1)) (m' + 11) b100_10 (stL (siC a 0) z0 (siRest L 0) hdr []) = some (.normal, stL (siC a 1) z0 (siRest L 1) (L 0) [.live (siRow (a 0) 0)]) :=
    lineO0 E N (m' + 11) h88 h90 h127 hp88 hp90 FP hp hF (a 0) (hok.pos 0 (by omega)) (by have := hok.cnt 0 (by omega); omega) (hok.bnd 0 (by omega)) (siRest L 0) hdr (L 0) (siRest L 1) (hok.l10 0 (by omega)) rfl (hsl 0 (by omega)).1 (hsl 0 (by omega)).2.2 (hsl 0 (by omega)).2.1 (hok.fld 0 (by omega)) (ci a 0) z0 [] (by have := hok.cnt 0 (by omega); omega)
  have s1 : evCA E (evF E (N + 1)) (m' + 11) b100_10 (stL (siC a 1) z0 (siRest L 1) (L 0) [.live (siRow (a 0) 0)]) = some (.normal, stL (siC a 2) z0 (siRest L 2) (L 1) [.live (siRow (a 0) 0), .live (siRow (a 1) 0)]) :=
    lineO1 E N (m' + 11) h88 h90 h127 hp88 hp90 FP hp hF (a 1) (hok.pos 1 (by omega)) (by have := hok.cnt 1 (by omega); omega) (hok.bnd 1 (by omega)) (siRest L 1) (L 0) (L 1) (siRest L 2) (hok.l10 1 (by omega)) rfl (hsl 1 (by omega)).1 (hsl 1 (by omega)).2.2 (hsl 1 (by omega)).2.1 (hok.fld 1 (by omega)) (ci a 1) z0 [.live (siRow (a 0) 0)] (by have := hok.cnt 1 (by omega); omega)
  have s2 : evCA E (evF E (N + 1)) (m' + 11) b100_10 (stL (siC a 2) z0 (siRest L 2) (L 1) [.live (siRow (a 0) 0), .live (siRow (a 1) 0)]) = some (.normal, stL (siC a 3) z0 (siRest L 3) (L 2) [.live (siRow (a 0) 0), .live (siRow (a 1) 0), .live (siRow (a 2) 0)]) :=
    lineO2 E N (m' + 11) h88 h90 h127 hp88 hp90 FP hp hF (a 2) (hok.pos 2 (by omega)) (by have := hok.cnt 2 (by omega); omega) (hok.bnd 2 (by omega)) (siRest L 2) (L 1) (L 2) (siRest L 3) (hok.l10 2 (by omega)) rfl (hsl 2 (by omega)).1 (hsl 2 (by omega)).2.2 (hsl 2 (by omega)).2.1 (hok.fld 2 (by omega)) (ci a 2) z0 [.live (siRow (a 0) 0), .live (siRow (a 1) 0)] (by have := hok.cnt 2 (by omega); omega)
  have s3 : evCA E (evF E (N + 1)) (m' + 11) b100_10 (stL (siC a 3) z0 (siRest L 3) (L 2) [.live (siRow (a 0) 0), .live (siRow (a 1) 0), .live (siRow (a 2) 0)]) = some (.normal, stL (siC a 4) z0 (siRest L 4) (L 3) [.live (siRow (a 0) 0), .live (siRow (a 1) 0), .live (siRow (a 2) 0), .live (siRow (a 3) 0)]) :=
    lineO3 E N (m' + 11) h88 h90 h127 hp88 hp90 FP hp hF (a 3) (hok.pos 3 (by omega)) (by have := hok.cnt 3 (by omega); omega) (hok.bnd 3 (by omega)) (siRest L 3) (L 2) (L 3) (siRest L 4) (hok.l10 3 (by omega)) rfl (hsl 3 (by omega)).1 (hsl 3 (by omega)).2.2 (hsl 3 (by omega)).2.1 (hok.fld 3 (by omega)) (ci a 3) z0 [.live (siRow (a 0) 0), .live (siRow (a 1) 0), .live (siRow (a 2) 0)] (by have := hok.cnt 3 (by omega); omega)
  have s4 : evCA E (evF E (N + 1)) (m' + 11) b100_10 (stL (siC a 4) z0 (siRest L 4) (L 3) [.live (siRow (a 0) 0), .live (siRow (a 1) 0), .live (siRow (a 2) 0), .live (siRow (a 3) 0)]) = some (.normal, stL (siC a 5) z0 (siRest L 5) (L 4) [.live (siRow (a 0) 0), .live (siRow (a 1) 0), .live (siRow (a 2) 0), .live (siRow (a 3) 0), .live (siRow (a 4) 0)]) :=
    lineO4 E N (m' + 11) h88 h90 h127 hp88 hp90 FP hp hF (a 4) (hok.pos 4 (by omega)) (by have := hok.cnt 4 (by omega); omega) (hok.bnd 4 (by omega)) (siRest L 4) (L 3) (L 4) (siRest L 5) (hok.l10 4 (by omega)) rfl (hsl 4 (by omega)).1 (hsl 4 (by omega)).2.2 (hsl 4 (by omega)).2.1 (hok.fld 4 (by omega)) (ci a 4) z0 [.live (siRow (a 0) 0), .live (siRow (a 1) 0), .live (siRow (a 2) 0), .live (siRow (a 3) 0)] (by have := hok.cnt 4 (by omega); omega)
  have s5 : evCA E (evF E (N + 1)) (m' + 11) b100_10 (stL (siC a 5) z0 (siRest L 5) (L 4) [.live (siRow (a 0) 0), .live (siRow (a 1) 0), .live (siRow (a 2) 0), .live (siRow (a 3) 0), .live (siRow (a 4) 0)]) = some (.normal, stL (siC a 6) z0 (siRest L 6) (L 5) [.live (siRow (a 0) 0), .live (siRow (a 1) 0), .live (siRow (a 2) 0), .live (siRow (a 3) 0), .live (siRow (a 4) 0), .live (siRow (a 5) 0)]) :=
    lineO5 E N (m' + 11) h88 h90 h127 hp88 hp90 FP hp hF (a 5) (hok.pos 5 (by omega)) (by have := hok.cnt 5 (by omega); omega) (hok.bnd 5 (by omega)) (siRest L 5) (L 4) (L 5) (siRest L 6) (hok.l10 5 (by omega)) rfl (hsl 5 (by omega)).1 (hsl 5 (by omega)).2.2 (hsl 5 (by omega)).2.1 (hok.fld 5 (by omega)) (ci a 5) z0 [.live (siRow (a 0) 0), .live (siRow (a 1) 0), .live (siRow (a 2) 0), .live (siRow (a 3) 0), .live (siRow (a 4) 0)] (by have := hok.cnt 5 (by omega); omega)
  have s6 : evCA E (evF E (N + 1)) (m' + 11) b100_10 (stL (siC a 6) z0 (siRest L 6) (L 5) [.live (siRow (a 0) 0), .live (siRow (a 1) 0), .live (siRow (a 2) 0), .live (siRow (a 3) 0), .live (siRow (a 4) 0), .live (siRow (a 5) 0)]) = some (.normal, stL (siC a 7) z0 (siRest L 7) (L 6) [.live (siRow (a 0) 0), .live (siRow (a 1) 0), .live (siRow (a 2) 0), .live (siRow (a 3) 0), .live (siRow (a 4) 0), .live (siRow (a 5) 0), .live (siRow (a 6) 0)]) :=
    lineO6 E N (m' + 11) h88 h90 h127 hp88 hp90 FP hp hF (a 6) (hok.pos 6 (by omega)) (by have := hok.cnt 6 (by omega); omega) (hok.bnd 6 (by omega)) (siRest L 6) (L 5) (L 6) (siRest L 7) (hok.l10 6 (by omega)) rfl (hsl 6 (by omega)).1 (hsl 6 (by omega)).2.2 (hsl 6 (by omega)).2.1 (hok.fld 6 (by omega)) (ci a 6) z0 [.live (siRow (a 0) 0), .live (siRow (a 1) 0), .live (siRow (a 2) 0), .live (siRow (a 3) 0), .live (siRow (a 4) 0), .live (siRow (a 5) 0)] (by have := hok.cnt 6 (by omega); omega)
  have s7 : evCA E (evF E (N + 1)) (m' + 11) b100_10 (stL (siC a 7) z0 (siRest L 7) (L 6) [.live (siRow (a 0) 0), .live (siRow (a 1) 0), .live (siRow (a 2) 0), .live (siRow (a 3) 0), .live (siRow (a 4) 0), .live (siRow (a 5) 0), .live (siRow (a 6) 0)]) = some (.normal, stL (siC a 8) z0 (siRest L 8) (L 7) [.live (siRow (a 0) 0), .live (siRow (a 1) 0), .live (siRow (a 2) 0), .live (siRow (a 3) 0), .live (siRow (a 4) 0), .live (siRow (a 5) 0), .live (siRow (a 6) 0), .live (siRow (a 7) 0)]) :=
    lineO7 E N (m' + 11) h88 h90 h127 hp88 hp90 FP hp hF (a 7) (hok.pos 7 (by omega)) (by have := hok.cnt 7 (by omega); omega) (hok.bnd 7 (by omega)) (siRest L 7) (L 6) (L 7) (siRest L 8) (hok.l10 7 (by omega)) rfl (hsl 7 (by omega)).1 (hsl 7 (by omega)).2.2 (hsl 7 (by omega)).2.1 (hok.fld 7 (by omega)) (ci a 7) z0 [.live (siRow (a 0) 0), .live (siRow (a 1) 0), .live (siRow (a 2) 0), .live (siRow (a 3) 0), .live (siRow (a 4) 0), .live (siRow (a 5) 0), .live (siRow (a 6) 0)] (by have := hok.cnt 7 (by omega); omega)
  have s8 : evCA E (evF E (N + 1)) (m' + 11) b100_10 (stL (siC a 8) z0 (siRest L 8) (L 7) [.live (siRow (a 0) 0), .live (siRow (a 1) 0), .live (siRow (a 2) 0), .live (siRow (a 3) 0), .live (siRow (a 4) 0), .live (siRow (a 5) 0), .live (siRow (a 6) 0), .live (siRow (a 7) 0)]) = some (.normal, stL (siC a 9) z0 (siRest L 9) (L 8) [.live (siRow (a 0) 0), .live (siRow (a 1) 0), .live (siRow (a 2) 0), .live (siRow (a 3) 0), .live (siRow (a 4) 0), .live (siRow (a 5) 0), .live (siRow (a 6) 0), .live (siRow (a 7) 0), .live (siRow (a 8) 0)]) :=
    lineO8 E N (m' + 11) h88 h90 h127 hp88 hp90 FP hp hF (a 8) (hok.pos 8 (by omega)) (by have := hok.cnt 8 (by omega); omega) (hok.bnd 8 (by omega)) (siRest L 8) (L 7) (L 8) (siRest L 9) (hok.l10 8 (by omega)) rfl (hsl 8 (by omega)).1 (hsl 8 (by omega)).2.2 (hsl 8 (by omega)).2.1 (hok.fld 8 (by omega)) (ci a 8) z0 [.live (siRow (a 0) 0), .live (siRow (a 1) 0), .live (siRow (a 2) 0), .live (siRow (a 3) 0), .live (siRow (a 4) 0), .live (siRow (a 5) 0), .live (siRow (a 6) 0), .live (siRow (a 7) 0)] (by have := hok.cnt 8 (by omega); omega)
  have s9 : evCA E (evF E (N + 1)) (m' + 11) b100_10 (stL (siC a 9) z0 (siRest L 9) (L 8) [.live (siRow (a 0) 0), .live (siRow (a 1) 0), .live (siRow (a 2) 0), .live (siRow (a 3) 0), .live (siRow (a 4) 0), .live (siRow (a 5) 0), .live (siRow (a 6) 0), .live (siRow (a 7) 0), .live (siRow (a 8) 0)]) = some (.normal, stL (siC a 10) z0 (siRest L 10) (L 9) [.live (siRow (a 0) 0), .live (siRow (a 1) 0), .live (siRow (a 2) 0), .live (siRow (a 3) 0), .live (siRow (a 4) 0), .live (siRow (a 5) 0), .live (siRow (a 6) 0), .live (siRow (a 7) 0), .live (siRow (a 8) 0), .live (siRow (a 9) 0)]) :=
    lineO9 E N (m' + 11) h88 h90 h127 hp88 hp90 FP hp hF (a 9) (hok.pos 9 (by omega)) (by have := hok.cnt 9 (by omega); omega) (hok.bnd 9 (by omega)) (siRest L 9) (L 8) (L 9) (siRest L 10) (hok.l10 9 (by omega)) rfl (hsl 9 (by omega)).1 (hsl 9 (by omega)).2.2 (hsl 9 (by omega)).2.1 (hok.fld 9 (by omega)) (ci a 9) z0 [.live (siRow (a 0) 0), .live (siRow (a 1) 0), .live (siRow (a 2) 0), .live (siRow (a 3) 0), .live (siRow (a 4) 0), .live (siRow (a 5) 0), .live (siRow (a 6) 0), .live (siRow (a 7) 0), .live (siRow (a 8) 0)] (by have := hok.cnt 9 (by omega); omega)
  rw [roundsA_step s0, roundsA_step s1, roundsA_step s2, roundsA_step s3, roundsA_step s4, roundsA_step s5, roundsA_step s6, roundsA_step s7, roundsA_step s8, roundsA_step s9, show siRest L 10 = [] from rfl]
  have hs := scan88e E h88 2 (z0 :: .live (siC a 10) :: scanBox [] (L 9) :: [.live (siRow (a 0) 0), .live (siRow (a 1) 0), .live (siRow (a 2) 0), .live (siRow (a 3) 0), .live (siRow (a 4) 0), .live (siRow (a 5) 0), .live (siRow (a 6) 0), .live (siRow (a 7) 0), .live (siRow (a 8) 0), .live (siRow (a 9) 0)]) (L 9) rfl N
  simp only [List.set_cons_zero, List.set_cons_succ, scanBox] at hs
  generalize siC a 10 = cs at *
  refine roundsA_out ?_ (by simp)
  simp [b100_10, stL, hp88, hs, scanBox]

def S91o (F : List SV → Option AV) : Prop := ∀ n : Nat, n < 18446744073709551616 → F [.str (decS n), .int .i64 10, .int .i64 64] = some (.sv (.tup [.int .u64 (n : Int), .nilI]))

def S100 (F : List SV → Option AV) : Prop := ∀ (hdr : List UInt8) (L : Nat → List UInt8) (a : Nat → List Nat), SiOK hdr L a → F [.str (hdr ++ 10 :: siRest L 0)] = some (.sv (.tup [.agg (siVal a), .nilI]))

set_option maxHeartbeats 16000000 in
theorem ev100 (E : Env) (h : E.code 129 = some c100) (h87 : E.code 116 = some c87) (h88 : E.code 117 = some c88) (h90 : E.code 119 = some c90) (h128 : E.code 159 = some c128) (h127 : E.pure 152 = some F127) (hp87 : E.pure 116 = none) (hp88 : E.pure 117 = none) (hp90 : E.pure 119 = none) (hp128 : E.pure 159 = none) (hl128 : E.look 159 = some 3) (h91 : Has E 120 S91o) : S100 (autoF E 129) := by
  obtain ⟨FP, hp, hF⟩ := h91
  intro hdr L a hok
  have hlen := hok.len
  have hz : ∀ cs : List Cell, cs = siC a 0 → cs = siC a 0 := fun _ h => h
  generalize hs : hdr ++ 10 :: siRest L 0 = s at hlen
  have h13 := hok.h13
  rw [hs] at h13
  let B0 : Box := .live [.sv .nilS, .sv .nilS, .sv .nilS, .sv .nilS, .sv .nilS, .sv .nilS, .sv .nilS, .sv .nilS, .sv .nilS, .sv .nilS]
  have e87 := evF87 E h87 (s.length + 65536) [B0, B0] s
  have hsc := scanGz E h88 s [] hdr (siRest L 0) hok.h10 hs.symm hlen h13 B0 B0 [] (s.length + 65536) (by omega)
  have hl := loopL E (s.length + 65536) (s.length + 65537) h88 h90 h127 hp88 hp90 FP hp hF hdr L a hok (by rw [hs]; omega) (by omega) B0
  have e128 := evF128 E h128 (s.length + 65536) 2 (B0 :: .live (siC a 10) :: scanBox [] [] :: [.live (siRow (a 0) 0), .live (siRow (a 1) 0), .live (siRow (a 2) 0), .live (siRow (a 3) 0), .live (siRow (a 4) 0), .live (siRow (a 5) 0), .live (siRow (a 6) 0), .live (siRow (a 7) 0), .live (siRow (a 8) 0), .live (siRow (a 9) 0)]) [] [] rfl
  refine autoA_sv (n := s.length + 65537) ?_ rfl
  unfold evPA
  simp only [h]
  unfold siVal
  have hu : ∀ vs : List Nat, (u64s vs).length = vs.length := fun vs => by simp [u64s]
  simp only [B0, scanBox, stL, siC, ci, List.length_cons, List.length_nil, List.cons_append, List.nil_append] at *
  simp at hl e128
  simp [c100, hp87, hp88, hp128, hl128, e87, hsc, hl, e128, Box.cells, siRow_plain, hu]

end Go.Ev

set_option linter.unusedSimpArgs false
set_option linter.unusedVariables false
namespace Go.Ev
open Go.Proofs

def S48 (F : List SV → Option AV) : Prop := ∀ (hdr : List UInt8) (L : Nat → List UInt8) (a : Nat → List Nat), SiOK hdr L a → F [.agg [.str (hdr ++ 10 :: siRest L 0)]] = some (.sv (.tup [.agg (siVal a), .nilI]))

theorem ev48 (E : Env) (h : E.code 61 = some c48) (h85 : E.pure 114 = some F85) (h99 : E.pure 128 = some F99) (h00 : Has E 129 S100) : S48 (autoF E 61) := by
  obtain ⟨F, hp, hF⟩ := h00
  intro hdr L a hok
  have hF1 := hF hdr L a hok
  have hlen := hok.len
  generalize hdr ++ 10 :: siRest L 0 = s at *
  have hF99 : F99 [.str s] = some (.sv (.tup [.sl (bytesSV s), .nilI])) := onlyIf_pos (by omega)
  have hb := svBytes_bytes s
  refine autoA_sv (n := 1) ?_ rfl
  unfold evPA
  simp only [h]
  unfold siVal at *
  generalize bytesSV s = bs at *
  simp [c48, h85, F85, h99, hF99, hb, hp, hF1]

def STr_si (F : List SV → Option AV) : Prop := ∀ (hdr : List UInt8) (L : Nat → List UInt8) (a : Nat → List Nat), SiOK hdr L a → F [.fn 61 [.agg [.str (hdr ++ 10 :: siRest L 0)]] [], .fn 62 [] []] = some (.sv (.tup [siTree a, .int .i64 0]))

theorem ev47 (E : Env) (h : E.code 60 = some c47) (hq : E.quiet 127 = true) (hS : Has E 61 S48) (hC : Has E 62 S49) : STr_si (autoF E 60) := by
  obtain ⟨F, hp, hF⟩ := hS
  obtain ⟨G, hg, hG⟩ := hC
  intro hdr L a hok
  have hF1 := hF hdr L a hok
  have hG1 := hG a (fun i hi => by have := hok.cnt i hi; omega)
  generalize hdr ++ 10 :: siRest L 0 = s at *
  refine autoA_sv (n := 1) ?_ rfl
  unfold evPA
  simp only [h]
  unfold siTree siVal nodeV at *
  simp [c47, hp, hF1, hg, hG1, hq]

def SDoor_si (F : List SV → Option AV) : Prop := ∀ (hdr : List UInt8) (L : Nat → List UInt8) (a : Nat → List Nat), SiOK hdr L a → F [.str (hdr ++ 10 :: siRest L 0)] = some (.sv (.tup [siTree a, .int .i64 0]))

theorem ev16 (E : Env) (h : E.code 22 = some c16) (h38 : E.pure 51 = some F38) (hT : Has E 60 STr_si) : SDoor_si (autoF E 22) := by
  obtain ⟨F, hp, hF⟩ := hT
  intro hdr L a hok
  have hF1 := hF hdr L a hok
  generalize hdr ++ 10 :: siRest L 0 = s at *
  refine autoA_sv (n := 1) ?_ rfl
  unfold evPA
  simp only [h]
  unfold siTree nodeV at *
  simp [c16, h38, F38, hp, hF1]

end Go.Ev

set_option linter.unusedSimpArgs false
set_option linter.unusedVariables false
namespace Go.Ev
open Go.Proofs

def okC (c : UInt8) : Prop := plainC c = true ∧ c.toNat ≠ 10 ∧ c.toNat ≠ 13

theorem dig_ok {n : Nat} {c : UInt8} (h : c ∈ decS n) : okC c ∧ blankC c = false := by
  have := (decS_dig n).2.1 c h
  unfold digC at this
  unfold okC plainC blankC
  simp only [Bool.and_eq_true, Bool.or_eq_true, decide_eq_true_eq, Bool.or_eq_false_iff, beq_eq_false_iff_ne, beq_iff_eq] at *
  omega

theorem okC_32 : okC 32 := by unfold okC plainC; decide
theorem okC_58 : okC 58 := by unfold okC plainC; decide

theorem rightS_ok {s : List UInt8} {n : Nat} (h : ∀ c ∈ s, okC c) : ∀ c ∈ rightS s n, okC c := by
  intro c hc
  unfold rightS at hc
  rcases List.mem_append.1 hc with hc | hc
  · rw [List.eq_of_mem_replicate hc]; exact okC_32
  · exact h c hc

theorem leftS_ok {s : List UInt8} {n : Nat} (h : ∀ c ∈ s, okC c) : ∀ c ∈ leftS s n, okC c := by
  intro c hc
  unfold leftS at hc
  rcases List.mem_append.1 hc with hc | hc
  · exact h c hc
  · rw [List.eq_of_mem_replicate hc]; exact okC_32

theorem siCol_ok (n : Nat) : ∀ c ∈ siCol n, okC c := by
  intro c hc
  unfold siCol at hc
  rcases List.mem_cons.1 hc with rfl | hc
  · exact okC_32
  · exact rightS_ok (fun c h => (dig_ok h).1) c hc

theorem siCpu_ok (n : Nat) : ∀ c ∈ siCpu n, okC c := by
  refine leftS_ok fun c hc => ?_
  simp only [List.mem_cons] at hc
  rcases hc with rfl | rfl | rfl | hc
  · unfold okC plainC; decide
  · unfold okC plainC; decide
  · unfold okC plainC; decide
  · exact (dig_ok hc).1

theorem flat_ok {α : Type} {f : α → List UInt8} (h : ∀ x, ∀ c ∈ f x, okC c) (l : List α) : ∀ c ∈ (l.map f).flatten, okC c := by
  intro c hc
  obtain ⟨x, hx, hc⟩ := List.mem_flatten.1 hc
  obtain ⟨y, _, rfl⟩ := List.mem_map.1 hx
  exact h y c hc

theorem cols_fields : ∀ (ns : List Nat) (d : List UInt8), d ≠ [] → (∀ c ∈ d, blankC c = false) → fieldG [] (d ++ (ns.map siCol).flatten) = d :: ns.map decS
  | [], d, hd, hb => by
    simp only [List.map_nil, List.flatten_nil, List.append_nil]
    exact fieldG_last hd hb
  | n :: ns, d, hd, hb => by
    have h1 : (( n :: ns).map siCol).flatten = 32 :: (rightS (decS n) 10 ++ (ns.map siCol).flatten) := by simp [siCol]
    rw [h1, fieldG_sep hd hb (by decide), fieldG_right, cols_fields ns (decS n) (decS_dig n).2.2 (fun c hc => (dig_ok hc).2)]
    rfl

/-- A line, as it is written. -/
def siL (nm : List UInt8) (ns : List Nat) : List UInt8 := rightS nm 12 ++ (58 :: (ns.map siCol).flatten)

theorem siL_fields {nm : List UInt8} {ns : List Nat} (hb : ∀ c ∈ nm, blankC c = false) : fieldsL (siL nm ns) = (nm ++ [58]) :: ns.map decS := by
  rw [fieldsL_eq]
  unfold siL
  rw [fieldG_right, show nm ++ 58 :: (ns.map siCol).flatten = (nm ++ [58]) ++ (ns.map siCol).flatten from by simp]
  refine cols_fields ns _ (by simp) fun c hc => ?_
  rcases List.mem_append.1 hc with hc | hc
  · exact hb c hc
  · simp only [List.mem_cons, List.not_mem_nil, or_false] at hc
    subst hc; decide

theorem siL_ok {nm : List UInt8} {ns : List Nat} (h : ∀ c ∈ nm, okC c) : ∀ c ∈ siL nm ns, okC c := by
  intro c hc
  unfold siL at hc
  rcases List.mem_append.1 hc with hc | hc
  · exact rightS_ok h c hc
  · rcases List.mem_cons.1 hc with rfl | hc
    · exact okC_58
    · exact flat_ok siCol_ok ns c hc

theorem siL_F127 {nm : List UInt8} {ns : List Nat} (hb : ∀ c ∈ nm, blankC c = false) (h : ∀ c ∈ nm, okC c) (hl : (siL nm ns).length < 65536) : F127 [.str (siL nm ns)] = some (.sv (.sl (.str (nm ++ [58]) :: strs (ns.map decS)))) := by
  have hk := siL_ok (ns := ns) h
  have := F127_eq (siL nm ns) (by omega) (fun c hc => (plain_lt (hk c hc).1).1)
  rw [words_fields (fun c hc => ⟨(hk c hc).1, (hk c hc).2.1⟩), siL_fields hb] at this
  exact this

end Go.Ev

set_option linter.unusedSimpArgs false
set_option linter.unusedVariables false
namespace Go.Ev
open Go.Proofs

def siA (rs : List RowD) (j : Nat) : List Nat := match rs[j]? with | some r => r.N | none => []

def siName (j : Nat) : List UInt8 := match siNm[j]? with | some p => p.2 | none => []

def siHdr (c : Nat) : List UInt8 := List.replicate 20 32 ++ ((List.range' 0 c).map siCpu).flatten

theorem siRowOk_spec {c : Nat} {nm : List UInt8} {r : RowD} (h : siRowOk c nm r = true) : r.name = nm ∧ 1 ≤ r.N.length ∧ r.N.length = c := by
  unfold siRowOk at h
  simp only [Bool.and_eq_true, decide_eq_true_eq] at h
  exact ⟨h.1, h.2.2.1, h.2.2.2⟩

theorem siNm_ok : ∀ k, k < 10 → (∀ c ∈ siName k, blankC c = false) ∧ (∀ c ∈ siName k, plainC c = true ∧ c.toNat ≠ 10 ∧ c.toNat ≠ 13) ∧ siName k ++ [58] = siHd k := by
  intro k hk
  rcases k with _ | _ | _ | _ | _ | _ | _ | _ | _ | _ | k
  all_goals first
    | omega
    | (refine ⟨by decide, by decide, by decide⟩)

theorem siOK_of {rs : List RowD} (hok : siOk rs = true) (hr : ∀ r ∈ rs, r.N.length ≤ 1000000 ∧ ∀ n ∈ r.N, n < 18446744073709551616) (hl : (siText rs).length ≤ 40000) :
    siText rs = siHdr (siCols rs) ++ 10 :: siRest (fun j => siL (siName j) (siA rs j)) 0 ∧ SiOK (siHdr (siCols rs)) (fun j => siL (siName j) (siA rs j)) (siA rs) ∧ nodeV [] 8 false 0 0 0 [] ((siNm.zip rs).map siKid) = siTree (siA rs) := by
  unfold siOk at hok
  rw [Bool.and_eq_true, decide_eq_true_eq] at hok
  obtain ⟨h10, hall⟩ := hok
  match rs, h10, hall, hr, hl with
  | [r0, r1, r2, r3, r4, r5, r6, r7, r8, r9], _, hall, hr, hl =>
    simp only [siNm, List.zip_cons_cons, List.zip_nil_right, List.all_cons, List.all_nil, Bool.and_true, Bool.and_eq_true] at hall
    obtain ⟨q0, q1, q2, q3, q4, q5, q6, q7, q8, q9⟩ := hall
    have s0 := siRowOk_spec q0; have s1 := siRowOk_spec q1; have s2 := siRowOk_spec q2; have s3 := siRowOk_spec q3; have s4 := siRowOk_spec q4
    have s5 := siRowOk_spec q5; have s6 := siRowOk_spec q6; have s7 := siRowOk_spec q7; have s8 := siRowOk_spec q8; have s9 := siRowOk_spec q9
    have key : ∀ (nm : List UInt8) (r : RowD), r.name = nm → siLine r = siL nm r.N ++ [10] := by
      intro nm r h
      unfold siLine siL
      rw [h]; simp
    have ht : siText [r0, r1, r2, r3, r4, r5, r6, r7, r8, r9] = siHdr (siCols [r0, r1, r2, r3, r4, r5, r6, r7, r8, r9]) ++ 10 :: siRest (fun j => siL (siName j) (siA [r0, r1, r2, r3, r4, r5, r6, r7, r8, r9] j)) 0 := by
      unfold siText siHead siHdr siRest
      simp only [List.map_cons, List.map_nil, List.flatten_cons, List.flatten_nil, key _ r0 s0.1, key _ r1 s1.1, key _ r2 s2.1, key _ r3 s3.1, key _ r4 s4.1, key _ r5 s5.1, key _ r6 s6.1, key _ r7 s7.1, key _ r8 s8.1, key _ r9 s9.1]
      simp [siTail, siName, siNm, siA]
    refine ⟨ht, ?_, rfl⟩
    have hA : ∀ k, k < 10 → 1 ≤ (siA [r0, r1, r2, r3, r4, r5, r6, r7, r8, r9] k).length ∧ (siA [r0, r1, r2, r3, r4, r5, r6, r7, r8, r9] k).length ≤ 1000000 ∧ ∀ n ∈ siA [r0, r1, r2, r3, r4, r5, r6, r7, r8, r9] k, n < 18446744073709551616 := by
      intro k hk
      rcases k with _ | _ | _ | _ | _ | _ | _ | _ | _ | _ | k
      · exact ⟨s0.2.1, (hr r0 (by simp)).1, (hr r0 (by simp)).2⟩
      · exact ⟨s1.2.1, (hr r1 (by simp)).1, (hr r1 (by simp)).2⟩
      · exact ⟨s2.2.1, (hr r2 (by simp)).1, (hr r2 (by simp)).2⟩
      · exact ⟨s3.2.1, (hr r3 (by simp)).1, (hr r3 (by simp)).2⟩
      · exact ⟨s4.2.1, (hr r4 (by simp)).1, (hr r4 (by simp)).2⟩
      · exact ⟨s5.2.1, (hr r5 (by simp)).1, (hr r5 (by simp)).2⟩
      · exact ⟨s6.2.1, (hr r6 (by simp)).1, (hr r6 (by simp)).2⟩
      · exact ⟨s7.2.1, (hr r7 (by simp)).1, (hr r7 (by simp)).2⟩
      · exact ⟨s8.2.1, (hr r8 (by simp)).1, (hr r8 (by simp)).2⟩
      · exact ⟨s9.2.1, (hr r9 (by simp)).1, (hr r9 (by simp)).2⟩
      · omega
    rw [ht] at hl
    generalize siA [r0, r1, r2, r3, r4, r5, r6, r7, r8, r9] = a at *
    generalize siCols [r0, r1, r2, r3, r4, r5, r6, r7, r8, r9] = c at *
    have hL : ∀ k, k < 10 → ∀ x ∈ siL (siName k) (a k), okC x := fun k hk => siL_ok (siNm_ok k hk).2.1
    have hH : ∀ x ∈ siHdr c, okC x := by
      intro x hx
      unfold siHdr at hx
      rcases List.mem_append.1 hx with hx | hx
      · rw [List.eq_of_mem_replicate hx]; exact okC_32
      · exact flat_ok siCpu_ok _ x hx
    have hlk : ∀ k, k < 10 → (siL (siName k) (a k)).length < 65536 ∧ (a k).length < 65536 := by
      intro k hk
      have h1 : (siL (siName k) (a k)).length ≤ (siRest (fun j => siL (siName j) (a j)) 0).length := by
        unfold siRest
        rcases k with _ | _ | _ | _ | _ | _ | _ | _ | _ | _ | k
        all_goals first
          | omega
          | (simp only [siTail, List.length_append, List.length_cons, List.length_nil]; omega)
      have h2 : ∀ ns : List Nat, ns.length ≤ ((ns.map siCol).flatten).length := by
        intro ns
        induction ns with
        | nil => simp
        | cons n ns ih => simp only [List.map_cons, List.flatten_cons, List.length_append, List.length_cons, siCol]; omega
      have h3 := h2 (a k)
      have h4 : ((a k).map siCol).flatten.length ≤ (siL (siName k) (a k)).length := by
        unfold siL; simp only [List.length_append, List.length_cons]; omega
      simp only [List.length_append, List.length_cons] at hl
      omega
    refine ⟨by omega, fun x hx => (hH x hx).2.1, fun x hx => ?_, fun k hk x hx => (hL k hk x hx).2.1, fun k hk => (hA k hk).1, fun k hk => (hlk k hk).2, fun k hk => (hA k hk).2.2, fun k hk => ?_⟩
    · rcases List.mem_append.1 hx with hx | hx
      · exact (hH x hx).2.2
      · rcases List.mem_cons.1 hx with rfl | hx
        · decide
        · have key2 : ∀ (n k : Nat), k + n ≤ 10 → ∀ x ∈ siTail (fun j => siL (siName j) (a j)) k n, x.toNat ≠ 13 := by
            intro n
            induction n with
            | zero => intro k _ x hx; simp [siTail] at hx
            | succ n ih =>
              intro k hk x hx
              simp only [siTail] at hx
              rcases List.mem_append.1 hx with hx | hx
              · exact (hL k (by omega) x hx).2.2
              · rcases List.mem_cons.1 hx with rfl | hx
                · decide
                · exact ih (k + 1) (by omega) x hx
          exact key2 10 0 (by omega) x hx
    · rw [← (siNm_ok k hk).2.2]
      exact siL_F127 (siNm_ok k hk).1 (siNm_ok k hk).2.1 (hlk k hk).1

end Go.Ev

set_option linter.unusedSimpArgs false
set_option linter.unusedVariables false
namespace Go.Ev
open Go.Proofs

theorem siTree_node (a : Nat → List Nat) (h : ∀ i, i < 10 → (a i).length < 1000000000) : IsNode (siTree a) := by
  have hu : ∀ n, IsNode (uN n) := fun n => .mk _ _ _ _ _ _ _ _ (by simp) (by simp)
  have hk : ∀ i, i < 10 → ∀ nm, IsNode (nodeV nm 6 false 0 0 0 [] ((a i).map uN)) := fun i hi nm => .mk _ _ _ _ _ _ _ _ (by simpa using h i hi) (fun k hk => by
    obtain ⟨n, _, rfl⟩ := List.mem_map.1 hk
    exact hu n)
  refine .mk _ _ _ _ _ _ _ _ (by simp) fun k hkk => ?_
  simp only [List.mem_cons, List.not_mem_nil, or_false] at hkk
  rcases hkk with rfl | rfl | rfl | rfl | rfl | rfl | rfl | rfl | rfl | rfl
  · exact hk 0 (by omega) _
  · exact hk 1 (by omega) _
  · exact hk 2 (by omega) _
  · exact hk 3 (by omega) _
  · exact hk 4 (by omega) _
  · exact hk 5 (by omega) _
  · exact hk 6 (by omega) _
  · exact hk 7 (by omega) _
  · exact hk 8 (by omega) _
  · exact hk 9 (by omega) _

def S9s (F : List SV → Option AV) : Prop := ∀ s : List UInt8, F [.str s, .fn 20 [] [], .fn 23 [] [], .fn 22 [] []] = some (.sv (.bool true))

theorem ev9s (E : Env) (h : E.code 15 = some c9) (hR : Has E 20 S14) (hT : Has E 23 S17) (hD : Has E 22 SDoor_si) (h25 : E.pure 38 = some F25) (h26 : E.pure 39 = some F26) (h27 : E.pure 40 = some F27) : S9s (autoF E 15) := by
  obtain ⟨FR, hpR, hFR⟩ := hR
  obtain ⟨FT, hpT, hFT⟩ := hT
  obtain ⟨FD, hpD, hFD⟩ := hD
  intro s
  refine autoF_sv (n := 1) ?_ rfl
  by_cases hs : 40000 < s.length
  · exact ev9_long E h _ _ _ s hs 1
  · have hr1 := hFR s (by omega)
    cases hr : siRead s with
    | none =>
      rw [hr] at hr1
      obtain ⟨l, b, hF⟩ := hr1
      exact ev9_opn E h _ _ _ FR hpR h25 s (by omega) l b hF 1
    | some rs =>
      rw [hr] at hr1
      obtain ⟨hF, hok, htx, hrs⟩ := hr1
      obtain ⟨k1, k2, k3⟩ := siOK_of hok hrs (by rw [htx]; omega)
      have hd := hFD _ _ _ k2
      rw [← k1, htx] at hd
      have ht := hFT rs hok hrs
      rw [k3] at ht
      exact ev9_yes E h _ _ _ FR FT FD hpR hpT hpD h25 h26 h27 s (by omega) _ _ (siTree_node _ (fun i hi => by have := k2.cnt i hi; omega)) hF ht hd 1

def S13s (F : List SV → Option AV) : Prop := ∀ s : List UInt8, F [.str s, .fn 20 [] [], .fn 21 [] [], .fn 22 [] []] = some (.sv (.bool true))

theorem ev13s (E : Env) (h : E.code 19 = some c13) (hR : Has E 20 S14) (hP : Has E 21 S15) (hD : Has E 22 SDoor_si) (h25 : E.pure 38 = some F25) (h26 : E.pure 39 = some F26) (h27 : E.pure 40 = some F27) : S13s (autoF E 19) := by
  obtain ⟨FR, hpR, hFR⟩ := hR
  obtain ⟨FP, hpP, hFP⟩ := hP
  obtain ⟨FD, hpD, hFD⟩ := hD
  intro s
  refine autoF_sv (n := 1) ?_ rfl
  by_cases hs : 40000 < s.length
  · exact ev13_long E h _ _ _ s hs 1
  · have hr1 := hFR s (by omega)
    cases hr : siRead s with
    | none =>
      rw [hr] at hr1
      obtain ⟨l, b, hF⟩ := hr1
      exact ev13_opn E h _ _ _ FR hpR h25 s (by omega) l b hF 1
    | some rs =>
      rw [hr] at hr1
      obtain ⟨hF, hok, htx, hrs⟩ := hr1
      obtain ⟨k1, k2, k3⟩ := siOK_of hok hrs (by rw [htx]; omega)
      have hd := hFD _ _ _ k2
      rw [← k1, htx] at hd
      have h10 : rs.length = 10 := by
        unfold siOk at hok
        rw [Bool.and_eq_true, decide_eq_true_eq] at hok
        exact hok.1
      have hp := hFP rs (by omega) hrs
      rw [if_pos hok, htx] at hp
      exact ev13_yes E h _ _ _ FR FP FD hpR hpP hpD h25 h26 h27 s s (by omega) _ _ (siTree_node _ (fun i hi => by have := k2.cnt i hi; omega)) hF hp hd (fun _ => hd) 1

theorem ev5 (E : Env) (h : E.code 5 = some c5) (h9 : Has E 15 S9s) (s : List UInt8) (n : Nat) : evP E n 5 [.str s] = some (.sv (.bool true)) := by
  obtain ⟨F, hp, hF⟩ := h9
  have hF1 := hF s
  unfold evP
  simp only [h]
  by_cases hs : 2147483647 < s.length
  · have e : (2147483647 : Int) < (s.length : Int) := by omega
    simp [c5, List.replicate, e]
  · have e : ¬ (2147483647 : Int) < (s.length : Int) := by omega
    simp [c5, List.replicate, e, hp, hF1]

theorem ev4 (E : Env) (h : E.code 4 = some c4) (h13 : Has E 19 S13s) (s : List UInt8) (n : Nat) : evP E n 4 [.str s] = some (.sv (.bool true)) := by
  obtain ⟨F, hp, hF⟩ := h13
  have hF1 := hF s
  unfold evP
  simp only [h]
  by_cases hs : 2147483647 < s.length
  · have e : (2147483647 : Int) < (s.length : Int) := by omega
    simp [c4, List.replicate, e]
  · have e : ¬ (2147483647 : Int) < (s.length : Int) := by omega
    simp [c4, List.replicate, e, hp, hF1]

/-- Decimals out of what is known of ParseUint. -/
theorem ev91o (E : Env) (h : E.code 120 = some c91) (h125 : Has E 190 S91o) : S91o (autoF E 120) := by
  obtain ⟨F, hp, hF⟩ := h125
  intro n hn
  have := hF n hn
  refine autoF_sv (n := 1) ?_ rfl
  unfold evP
  simp only [h]
  simp [c91, List.replicate, hp, this]

end Go.Ev

set_option linter.unusedSimpArgs false
set_option linter.unusedVariables false
namespace Go.Ev
open Go.Proofs

/-! ### Small letters -/

def S135 (F : List SV → Option AV) : Prop := ∀ c : UInt8, 10 ≤ digitV c.toNat → digitV c.toNat < 16 → F [.int .u8 (c.toNat : Int)] = some (.sv (.int .u8 ((digitV c.toNat + 87 : Nat) : Int)))

theorem hexLetter {c : Nat} (h : 10 ≤ digitV c) (h2 : digitV c < 16) : c = 65 ∨ c = 66 ∨ c = 67 ∨ c = 68 ∨ c = 69 ∨ c = 70 ∨ c = 97 ∨ c = 98 ∨ c = 99 ∨ c = 100 ∨ c = 101 ∨ c = 102 := by
  unfold digitV at h h2
  (repeat' split at h) <;> (repeat' split at h2) <;> omega

theorem ev135 (E : Env) (h : E.code 201 = some c135) : S135 (autoF E 201) := by
  intro c h1 h2
  refine autoF_sv (n := 1) ?_ rfl
  unfold evP
  simp only [h]
  generalize c.toNat = k at h1 h2 ⊢
  rcases hexLetter h1 h2 with rfl | rfl | rfl | rfl | rfl | rfl | rfl | rfl | rfl | rfl | rfl | rfl <;> kernel_rfl

/-! ### Numbers -/

set_option maxRecDepth 100000 in
set_option maxHeartbeats 4000000 in
theorem loop125b (E : Env) (cf : CallF) (b8 : Bool) (s0 s : List UInt8) (hs : s.length < 1000000000000) (m : Nat) :
    ∀ (rest pre : List UInt8) (a k : Nat), s = pre ++ rest → (∀ c ∈ rest, digC c = true) → digN a rest < 18446744073709551616 → rest.length < k →
      rounds (evC E cf m b125_0) k { tm := [.sv .undef, .sv (.int .i64 10)] ++ List.replicate 6 (.sv .undef) ++ [.sv (.bool b8), .sv (.str s0), .sv (.int .u64 1844674407370955162), .sv (.int .u64 18446744073709551615), .sv (.bool false), .sv (.int .u64 a)] ++ List.replicate 85 (.sv .undef) ++ [.sv (.sl (bytesSV s)), .sv (.int .i64 s.length), .sv (.int .i64 pre.length)] ++ List.replicate 70 (.sv .undef), lz := none, bx := [], df := [] } =
        some (.exit 3, { tm := List.replicate 9 (.sv .undef) ++ [.sv (.str s0), .sv .undef, .sv .undef, .sv (.bool false), .sv (.int .u64 (digN a rest : Nat))] ++ List.replicate 158 (.sv .undef), lz := none, bx := [], df := [] }) := by
  intro rest
  induction rest with
  | nil =>
    intro pre a k hsp hr ha hk
    obtain ⟨k, rfl⟩ : ∃ k', k = k' + 1 := ⟨k - 1, by omega⟩
    have hlt : ¬ (pre.length < s.length) := by rw [hsp]; simp
    refine rounds_out ?_ (by simp)
    simp [b125_0, List.replicate, hlt, digN_nil]
  | cons c rest ih =>
    intro pre a k hsp hr ha hk
    obtain ⟨k, rfl⟩ : ∃ k', k = k' + 1 := ⟨k - 1, by omega⟩
    have hlt : pre.length < s.length := by rw [hsp]; simp
    have hsl := congrArg List.length hsp
    simp only [List.length_append, List.length_cons] at hsl
    have hc : ∀ h : pre.length < (bytesSV s).length, (bytesSV s)[pre.length]'h = .int .u8 (c.toNat : Int) := by subst hsp; simp [bytesSV]
    have hw2 : IntKind.i64.wrap ((pre.length : Int) + 1) = ((pre ++ [c]).length : Int) := by rw [IntKind.wrap_i64]; simp; omega
    obtain ⟨d1, d2⟩ := digC_iff.1 (hr c (by simp))
    have hs8 : IntKind.u8.wrap ((c.toNat : Int) - 48) = ((dgt c : Nat) : Int) := by rw [IntKind.wrap_u8]; unfold dgt; omega
    have hd9 : dgt c ≤ 9 := by unfold dgt; omega
    have e95 : ((c.toNat : Int) == 95) = false := by rw [Bool.eq_false_iff]; simp; omega
    have e48 : (48 : Int) ≤ (c.toNat : Int) := by omega
    have e57 : (c.toNat : Int) ≤ 57 := by omega
    rw [digN_cons] at ha ⊢
    have hge := digN_ge rest (a * 10 + dgt c)
    generalize dgt c = d at *
    have h10 : ¬ (10 : Int) ≤ (d : Int) := by omega
    have hcut : ¬ (1844674407370955162 : Int) ≤ (a : Int) := by omega
    have hw8 : IntKind.u8.wrap 10 = 10 := by rw [IntKind.wrap_u8]; omega
    have hw64 : IntKind.u64.wrap 10 = 10 := by rw [IntKind.wrap_u64]; omega
    have hw3 : IntKind.u64.wrap (d : Int) = (d : Int) := by rw [IntKind.wrap_u64]; omega
    have hw4 : IntKind.u64.wrap ((a : Int) * 10) = ((a * 10 : Nat) : Int) := by rw [IntKind.wrap_u64]; omega
    have hw5 : IntKind.u64.wrap (((a * 10 : Nat) : Int) + (d : Int)) = ((a * 10 + d : Nat) : Int) := by rw [IntKind.wrap_u64]; omega
    have q1 : ¬ (((a * 10 + d : Nat) : Int) < ((a * 10 : Nat) : Int)) := by omega
    have q2 : ¬ ((18446744073709551615 : Int) < ((a * 10 + d : Nat) : Int)) := by omega
    have he := ih (pre ++ [c]) (a * 10 + d) k (by rw [hsp]; simp) (fun x hx => hr x (by simp [hx])) ha (by simp at hk; omega)
    rw [← he]
    refine rounds_step ?_
    generalize (a * 10 + d) = a2 at *
    generalize (a * 10) = a1 at *
    simp [b125_0, List.replicate, hlt, bytesSV_length, hc, hs8, e95, e48, e57, h10, hcut, hw8, hw64, hw2, hw3, hw4, hw5, q1, q2]

set_option maxRecDepth 100000 in
set_option maxHeartbeats 4000000 in
theorem loop125h (E : Env) (cf : CallF) (h135 : Has E 201 S135) (s0 s : List UInt8) (hs : s.length < 1000000000000) (m : Nat) :
    ∀ (rest pre : List UInt8) (a k : Nat), s = pre ++ rest → (∀ c ∈ rest, digitV c.toNat < 16) → hexN a rest < 18446744073709551616 → rest.length < k →
      rounds (evC E cf m b125_0) k { tm := [.sv .undef, .sv (.int .i64 16)] ++ List.replicate 6 (.sv .undef) ++ [.sv (.bool false), .sv (.str s0), .sv (.int .u64 1152921504606846976), .sv (.int .u64 18446744073709551615), .sv (.bool false), .sv (.int .u64 a)] ++ List.replicate 85 (.sv .undef) ++ [.sv (.sl (bytesSV s)), .sv (.int .i64 s.length), .sv (.int .i64 pre.length)] ++ List.replicate 70 (.sv .undef), lz := none, bx := [], df := [] } =
        some (.exit 3, { tm := List.replicate 9 (.sv .undef) ++ [.sv (.str s0), .sv .undef, .sv .undef, .sv (.bool false), .sv (.int .u64 (hexN a rest : Nat))] ++ List.replicate 158 (.sv .undef), lz := none, bx := [], df := [] }) := by
  obtain ⟨F, hp, hF⟩ := h135
  intro rest
  induction rest with
  | nil =>
    intro pre a k hsp hr ha hk
    obtain ⟨k, rfl⟩ : ∃ k', k = k' + 1 := ⟨k - 1, by omega⟩
    have hlt : ¬ (pre.length < s.length) := by rw [hsp]; simp
    refine rounds_out ?_ (by simp)
    simp [b125_0, List.replicate, hlt, hexN_nil]
  | cons c rest ih =>
    intro pre a k hsp hr ha hk
    obtain ⟨k, rfl⟩ : ∃ k', k = k' + 1 := ⟨k - 1, by omega⟩
    have hlt : pre.length < s.length := by rw [hsp]; simp
    have hsl := congrArg List.length hsp
    simp only [List.length_append, List.length_cons] at hsl
    have hc : ∀ h : pre.length < (bytesSV s).length, (bytesSV s)[pre.length]'h = .int .u8 (c.toNat : Int) := by subst hsp; simp [bytesSV]
    have hw2 : IntKind.i64.wrap ((pre.length : Int) + 1) = ((pre ++ [c]).length : Int) := by rw [IntKind.wrap_i64]; simp; omega
    have hd16 := hr c (by simp)
    have hFc := hF c
    rw [hexN_cons] at ha ⊢
    have hge := hexN_ge rest (a * 16 + digitV c.toNat)
    have h10 : ¬ (16 : Int) ≤ (digitV c.toNat : Int) := by omega
    have hcut : ¬ (1152921504606846976 : Int) ≤ (a : Int) := by omega
    have hw8 : IntKind.u8.wrap 16 = 16 := by rw [IntKind.wrap_u8]; omega
    have hw64 : IntKind.u64.wrap 16 = 16 := by rw [IntKind.wrap_u64]; omega
    have hw3 : IntKind.u64.wrap (digitV c.toNat : Int) = (digitV c.toNat : Int) := by rw [IntKind.wrap_u64]; omega
    have hw4 : IntKind.u64.wrap ((a : Int) * 16) = ((a * 16 : Nat) : Int) := by rw [IntKind.wrap_u64]; omega
    have hw5 : IntKind.u64.wrap (((a * 16 : Nat) : Int) + (digitV c.toNat : Int)) = ((a * 16 + digitV c.toNat : Nat) : Int) := by rw [IntKind.wrap_u64]; omega
    have q1 : ¬ (((a * 16 + digitV c.toNat : Nat) : Int) < ((a * 16 : Nat) : Int)) := by omega
    have q2 : ¬ ((18446744073709551615 : Int) < ((a * 16 + digitV c.toNat : Nat) : Int)) := by omega
    have he := ih (pre ++ [c]) (a * 16 + digitV c.toNat) k (by rw [hsp]; simp) (fun x hx => hr x (by simp [hx])) ha (by simp at hk; omega)
    rw [← he]
    refine rounds_step ?_
    by_cases hlet : 10 ≤ digitV c.toNat
    · have hFv := hFc hlet hd16
      have hl := hexLetter hlet hd16
      have e95 : ((c.toNat : Int) == 95) = false := by rw [Bool.eq_false_iff]; simp; omega
      have e48 : (48 : Int) ≤ (c.toNat : Int) := by omega
      have e57 : ¬ (c.toNat : Int) ≤ 57 := by omega
      have f1 : (97 : Int) ≤ ((digitV c.toNat + 87 : Nat) : Int) := by omega
      have f2 : ((digitV c.toNat + 87 : Nat) : Int) ≤ 122 := by omega
      have f3 : IntKind.u8.wrap (IntKind.u8.wrap (((digitV c.toNat + 87 : Nat) : Int) - 97) + 10) = (digitV c.toNat : Int) := by rw [IntKind.wrap_u8, IntKind.wrap_u8]; omega
      generalize digitV c.toNat = d at *
      generalize (a * 16 + d) = a2 at *
      generalize (a * 16) = a1 at *
      generalize ((d + 87 : Nat) : Int) = d87 at *
      simp [b125_0, List.replicate, hlt, bytesSV_length, hc, hp, hFv, e95, e48, e57, f1, f2, f3, h10, hcut, hw8, hw64, hw2, hw3, hw4, hw5, q1, q2]
    · have hl : 48 ≤ c.toNat ∧ c.toNat ≤ 57 ∧ digitV c.toNat = c.toNat - 48 := by
        unfold digitV at hlet hd16 ⊢
        (repeat' split at hlet) <;> (repeat' split at hd16) <;> (repeat' split) <;> omega
      have e95 : ((c.toNat : Int) == 95) = false := by rw [Bool.eq_false_iff]; simp; omega
      have e48 : (48 : Int) ≤ (c.toNat : Int) := by omega
      have e57 : (c.toNat : Int) ≤ 57 := by omega
      have hs8 : IntKind.u8.wrap ((c.toNat : Int) - 48) = (digitV c.toNat : Int) := by rw [IntKind.wrap_u8]; omega
      generalize digitV c.toNat = d at *
      generalize (a * 16 + d) = a2 at *
      generalize (a * 16) = a1 at *
      simp [b125_0, List.replicate, hlt, bytesSV_length, hc, hs8, e95, e48, e57, h10, hcut, hw8, hw64, hw2, hw3, hw4, hw5, q1, q2]

def S125u (F : List SV → Option AV) : Prop :=
  (∀ s : List UInt8, s.length < 1000000000000 → s ≠ [] → (∀ c ∈ s, digitV c.toNat < 16) → hexN 0 s < 18446744073709551616 → F [.str s, .int .i64 16, .int .i64 64] = some (.sv (.tup [.int .u64 (hexN 0 s : Nat), .nilI]))) ∧
  (∀ n : Nat, n < 18446744073709551616 → F [.str (decS n), .int .i64 0, .int .i64 64] = some (.sv (.tup [.int .u64 (n : Int), .nilI])))

theorem decS_head : ∀ n : Nat, 0 < n → ∃ c cs, decS n = c :: cs ∧ c.toNat ≠ 48 := by
  intro n
  induction n using Nat.strongRecOn with
  | _ n ih =>
    intro hn
    by_cases h : n < 10
    · refine ⟨UInt8.ofNat (48 + n), [], decS_small h, ?_⟩
      rw [dig_toNat h]; omega
    · obtain ⟨c, cs, h1, h2⟩ := ih (n / 10) (by omega) (by omega)
      exact ⟨c, cs ++ [UInt8.ofNat (48 + n % 10)], by rw [decS_step h, h1]; rfl, h2⟩

set_option maxRecDepth 100000 in
set_option maxHeartbeats 4000000 in
theorem ev125u (E : Env) (h : E.code 190 = some c125) (h135 : Has E 201 S135) : S125u (autoF E 190) := by
  have hsh : IntKind.u64.wrap (IntKind.u64.wrap (2 ^ min 64 IntKind.u64.bits) - 1) = 18446744073709551615 := by decide
  have hsh0 : IntKind.u64.wrap 64 = 64 := by decide
  refine ⟨fun s hs hne hd hv => ?_, fun n hn => ?_⟩
  · have hl := loop125h E (evF E (s.length + 1)) h135 s s hs (s.length + 1) s [] 0 (s.length + 1) rfl hd hv (by omega)
    refine autoF_sv (n := s.length + 1) ?_ rfl
    unfold evP
    simp only [h]
    simp only [List.replicate, List.cons_append, List.nil_append, List.length_nil, Int.ofNat_zero, Int.natCast_zero] at hl
    generalize hexN 0 s = v at *
    simp [c125, List.replicate, hne, hsh, hsh0, bytesSV_length, hl]
  · obtain ⟨g1, g2, g3⟩ := decS_dig n
    have hlen := decS_len20 hn
    by_cases hz : n = 0
    · subst hz
      have hl := loop125b E (evF E 1) true [48] [] (by simp) 1 [] [] 0 1 rfl (by simp) (by rw [digN_nil]; omega) (by simp)
      refine autoF_sv (n := 1) ?_ rfl
      unfold evP
      simp only [h]
      rw [decS_small (by omega)]
      kernel_rfl
    · obtain ⟨c, cs, hcs, h48⟩ := decS_head n (by omega)
      have hl := loop125b E (evF E ((decS n).length + 1)) true (decS n) (decS n) (by omega) ((decS n).length + 1) (decS n) [] 0 ((decS n).length + 1) rfl g2 (by rw [g1]; exact hn) (by omega)
      rw [g1] at hl
      refine autoF_sv (n := (decS n).length + 1) ?_ rfl
      unfold evP
      simp only [h]
      simp only [List.replicate, List.cons_append, List.nil_append, List.length_nil, Int.ofNat_zero, Int.natCast_zero] at hl
      have e48 : ((c.toNat : Int) == 48) = false := by rw [Bool.eq_false_iff]; simp; omega
      rw [hcs] at hl ⊢
      simp [c125, List.replicate, hsh, hsh0, bytesSV_length, e48]
      simp at hl
      simp [hl]

def S91 (F : List SV → Option AV) : Prop := S125u F

theorem ev91 (E : Env) (h : E.code 120 = some c91) (h125 : Has E 190 S125u) : S91 (autoF E 120) := by
  obtain ⟨F, hp, hF1, hF2⟩ := h125
  refine ⟨fun s hs hne hd hv => ?_, fun n hn => ?_⟩
  · have := hF1 s hs hne hd hv
    refine autoF_sv (n := 1) ?_ rfl
    unfold evP
    simp only [h]
    generalize hexN 0 s = v at *
    simp [c91, List.replicate, hp, this]
  · have := hF2 n hn
    refine autoF_sv (n := 1) ?_ rfl
    unfold evP
    simp only [h]
    generalize decS n = v at *
    simp [c91, List.replicate, hp, this]

end Go.Ev

set_option linter.unusedSimpArgs false
set_option linter.unusedVariables false
namespace Go.Ev
open Go.Proofs

/-! ### The first place of a sign -/

def S1166 (F : List SV → Option AV) : Prop := ∀ (b : UInt8) (s : List UInt8), s.length < 1000000000000 →
  ((∀ c ∈ s, c.toNat ≠ b.toNat) → F [.str s, .str [b]] = some (.sv (.int .i64 (-1)))) ∧
  ∀ w rest, s = w ++ b :: rest → (∀ c ∈ w, c.toNat ≠ b.toNat) → F [.str s, .str [b]] = some (.sv (.int .i64 (w.length : Int)))

theorem take_one {s : List UInt8} {i : Nat} {c : UInt8} {rest pre : List UInt8} (h : s = pre ++ c :: rest) (hi : i = pre.length) : (s.take (i + 1)).drop i = [c] := by
  subst h; subst hi
  rw [show pre.length + 1 = (pre ++ [c]).length from by simp, show pre ++ c :: rest = (pre ++ [c]) ++ rest from by simp, List.take_left, List.drop_left]

theorem first_or (b : Nat) : ∀ s : List UInt8, (∀ c ∈ s, c.toNat ≠ b) ∨ ∃ w c rest, s = w ++ c :: rest ∧ c.toNat = b ∧ ∀ x ∈ w, x.toNat ≠ b
  | [] => .inl (by simp)
  | c :: s => by
    by_cases h : c.toNat = b
    · exact .inr ⟨[], c, s, rfl, h, by simp⟩
    · rcases first_or b s with h1 | ⟨w, d, rest, h1, h2, h3⟩
      · exact .inl fun x hx => by
          rcases List.mem_cons.1 hx with rfl | hx
          · exact h
          · exact h1 x hx
      · exact .inr ⟨c :: w, d, rest, by rw [h1]; rfl, h2, fun x hx => by
          rcases List.mem_cons.1 hx with rfl | hx
          · exact h
          · exact h3 x hx⟩

/-! ### A text split -/

def S1157 (F : List SV → Option AV) : Prop := ∀ (b : UInt8) (s : List UInt8), s.length < 100000000000 → F [.str s, .str [b]] = some (.sv (.sl (strs (partG b.toNat [] s))))

def byV (hi lo : UInt8) : UInt8 := UInt8.ofNat (digitV hi.toNat * 16 + digitV lo.toNat)

theorem byV_toNat {hi lo : UInt8} (h1 : digitV hi.toNat < 16) (h2 : digitV lo.toNat < 16) : (byV hi lo).toNat = digitV hi.toNat * 16 + digitV lo.toNat := by
  unfold byV; simp; omega

def hexB : List UInt8 → List UInt8
  | a :: b :: r => byV a b :: hexB r
  | _ => []

/-- An address's bytes: each word backwards. -/
def addrV : List UInt8 → List UInt8
  | a :: b :: c :: d :: e :: f :: g :: h :: r => byV g h :: byV e f :: byV c d :: byV a b :: addrV r
  | _ => []

def S1177 (F : List SV → Option AV) : Prop := ∀ c : UInt8, digitV c.toNat < 16 → F [.int .u8 (c.toNat : Int)] = some (.sv (.tup [.int .u8 (digitV c.toNat : Int), .bool true]))

def S1174 (F : List SV → Option AV) : Prop := ∀ (k : Nat) (s : List UInt8), s.length = 2 * k → s.length < 1000000 → (∀ c ∈ s, digitV c.toNat < 16) → F [.str s] = some (.sv (.tup [.sl (bytesSV (hexB s)), .nilI]))

theorem or16 : ∀ a b : Fin 16, (a.val * 16 ||| b.val) = a.val * 16 + b.val := by decide

theorem or16' {a b : Nat} (ha : a < 16) (hb : b < 16) : (a * 16 ||| b) = a * 16 + b := or16 ⟨a, ha⟩ ⟨b, hb⟩

def addrF (s : List UInt8) : Prop := (s.length = 8 ∨ s.length = 32) ∧ ∀ c ∈ s, digitV c.toNat < 16

def S1169 (F : List SV → Option AV) : Prop := ∀ s : List UInt8, addrF s → F [.str s] = some (.sv (.tup [.sl (bytesSV (addrV s)), .nilI]))

end Go.Ev

set_option linter.unusedSimpArgs false
set_option linter.unusedVariables false
namespace Go.Ev
open Go.Proofs

def S125d (F : List SV → Option AV) : Prop := ∀ n : Nat, n < 18446744073709551616 → F [.str (decS n), .int .i64 10, .int .i64 64] = some (.sv (.tup [.int .u64 (n : Int), .nilI]))

set_option maxRecDepth 100000 in
set_option maxHeartbeats 4000000 in
theorem ev125d (E : Env) (h : E.code 190 = some c125) : S125d (autoF E 190) := by
  have hsh : IntKind.u64.wrap (IntKind.u64.wrap (2 ^ min 64 IntKind.u64.bits) - 1) = 18446744073709551615 := by decide
  have hsh0 : IntKind.u64.wrap 64 = 64 := by decide
  intro n hn
  obtain ⟨g1, g2, g3⟩ := decS_dig n
  have hlen := decS_len20 hn
  have hl := loop125b E (evF E ((decS n).length + 1)) false (decS n) (decS n) (by omega) ((decS n).length + 1) (decS n) [] 0 ((decS n).length + 1) rfl g2 (by rw [g1]; exact hn) (by omega)
  rw [g1] at hl
  refine autoF_sv (n := (decS n).length + 1) ?_ rfl
  unfold evP
  simp only [h]
  generalize decS n = s at *
  simp only [List.replicate, List.cons_append, List.nil_append, List.length_nil, Int.ofNat_zero, Int.natCast_zero] at hl
  simp [c125, List.replicate, g3, hsh, hsh0, bytesSV_length, hl]

def S154d (F : List SV → Option AV) : Prop := ∀ n : Nat, n < 4611686018427387904 → F [.str (decS n), .int .i64 10, .int .i64 64] = some (.sv (.tup [.int .i64 (n : Int), .nilI]))

def S1158 (F : List SV → Option AV) : Prop := S154d F

def zB (c : UInt8) : Bool := decide (c.toNat = 32) || decide (c.toNat = 9) || decide (c.toNat = 10) || decide (c.toNat = 12) || decide (c.toNat = 13)

def S1167 (F : List SV → Option AV) : Prop := ∀ c : UInt8, F [.int .u8 (c.toNat : Int)] = some (.sv (.bool (zB c)))

/-- A text whose runs of blanks are single blanks; `p`: a blank is before it. -/
def spG : Bool → List UInt8 → List UInt8
  | _, [] => []
  | p, c :: t => if zB c = true then (if p then spG true t else 32 :: spG true t) else c :: spG false t

theorem spG_len : ∀ (s : List UInt8) (p : Bool), (spG p s).length ≤ s.length
  | [], p => by simp [spG]
  | c :: t, p => by
    have h1 := spG_len t true; have h2 := spG_len t false
    simp only [spG]
    split
    · split
      · simp; omega
      · simp; omega
    · simp; omega

def S1156 (F : List SV → Option AV) : Prop := ∀ s : List UInt8, s.length < 1000000000 → F [.str s] = some (.sv (.str (spG false s)))

def st1156 (s out : List UInt8) (i : Nat) : SA := { nt := 36, tm := [(4, .sv (.int .i64 i)), (3, .sv (.str out)), (0, .sv (.str s))], lz := none, bx := [], df := [] }

def S1166g (F : List SV → Option AV) : Prop := ∀ s w : List UInt8, s.length < 1000000000 → w.length < 1000000000 →
  ((∀ i, (s.drop i).take w.length ≠ w) → F [.str s, .str w] = some (.sv (.int .i64 (-1)))) ∧ (w.length ≤ s.length → s.take w.length = w → F [.str s, .str w] = some (.sv (.int .i64 0)))

def st1166 (s w : List UInt8) (i : Nat) : SA := { nt := 25, tm := [(5, .sv (.int .i64 i)), (1, .sv (.str w)), (0, .sv (.str s))], lz := none, bx := [], df := [] }

def S1166b (F : List SV → Option AV) : Prop := S1166 F ∧ S1166g F

theorem has_fst {E : Env} {f : Nat} (h : Has E f S1166b) : Has E f S1166 := by
  obtain ⟨F, h1, h2, _⟩ := h
  exact ⟨F, h1, h2⟩

def S1155 (F : List SV → Option AV) : Prop := ∀ s w : List UInt8, s.length < 1000000000 → w.length < 1000000000 →
  ((∀ i, (s.drop i).take w.length ≠ w) → F [.str s, .str w] = some (.sv (.bool false))) ∧ (w.length ≤ s.length → s.take w.length = w → F [.str s, .str w] = some (.sv (.bool true)))

end Go.Ev

set_option linter.unusedSimpArgs false
set_option linter.unusedVariables false
namespace Go.Ev
open Go.Proofs
variable {P : Program} {E : Env}

/-- A law of one text. -/
theorem ptOf (B : Base P E) {f : Nat} (h : ∀ s n, evP E n f [.str s] = some (.sv (.bool true))) : PureFn P E f F8x := by
  refine PureFn.of B.m B.T B.Q B.P fun vs r hF => ?_
  unfold F8x at hF
  split at hF
  · rename_i s
    simp only [Option.some.injEq] at hF; subst hF
    exact ⟨1, _, h s 1, .inl rfl⟩
  · cases hF

end Go.Ev

set_option linter.unusedSimpArgs false
set_option linter.unusedVariables false
namespace Go.Proofs.YtcjebcenbimcgaaGreatDoor
open Go.ChangeShapes Go.WideShapes Go.ChangeAt Go.RowKit Go.Ev

theorem own : ownKnob Tryz.prog.godebug = none := by kernel_rfl

def laid15 : List (String × DataW Unit) := Rows.fnSoftirqsReadRow.laid

theorem glob_none {W : World} {F : Frz} (g : Nat) (h : globT g = []) : RepS F (.ref (globT g)) (.pointer (some ⟨g, 0, none⟩)) := by
  rw [h]
  exact .ref [] g 0 (fun _ => undef) (fun j hj => by simp at hj) (fun j x hx => by simp at hx) (fun j x hx => by simp at hx)

theorem cells_of {W : World} {name : String} {g : Nat} {cs : Array Value} (hg : Tryz.prog.globalNamed name = some g) (hv : W.var? Tryz.prog name = some cs) (j : Nat) (v : Value) (h : cs.toList[j]? = some v) : W.cell? ⟨g, j, none⟩ = some v := by
  rw [World.var?_cell hg hv j]
  simpa using h

theorem glob_ok {W : World} (hL : laidMetH Tryz.prog laid15 W) : GlobF E0 (fun b o v => W.cell? ⟨b, o, none⟩ = some v) := by
  rw [MakeChecks.laidMetH_plain _ _ _ (by kernel_rfl)] at hL
  obtain ⟨ps, ⟨g0, t0, cs0, f0, p0, q0, hg0, ht0, hv0, hd0, ⟨g1, t1, cs1, f1, p1, q1, hg1, ht1, hv1, hd1, ⟨g2, t2, cs2, f2, p2, q2, hg2, ht2, hv2, hd2, ⟨g3, t3, cs3, f3, p3, q3, hg3, ht3, hv3, hd3, ⟨g4, t4, cs4, f4, p4, q4, hg4, ht4, hv4, hd4, ⟨g5, t5, cs5, f5, p5, q5, hg5, ht5, hv5, hd5, ⟨g6, t6, cs6, f6, p6, q6, hg6, ht6, hv6, hd6, ⟨g7, t7, cs7, f7, p7, q7, hg7, ht7, hv7, hd7, ⟨g8, t8, cs8, f8, p8, q8, hg8, ht8, hv8, hd8, ⟨g9, t9, cs9, f9, p9, q9, hg9, ht9, hv9, hd9, ⟨g10, t10, cs10, f10, p10, q10, hg10, ht10, hv10, hd10, ⟨g11, t11, cs11, f11, p11, q11, hg11, ht11, hv11, hd11, ⟨g12, t12, cs12, f12, p12, q12, hg12, ht12, hv12, hd12, _, _⟩, _⟩, _⟩, _⟩, _⟩, _⟩, _⟩, _⟩, _⟩, _⟩, _⟩, _⟩, _⟩, _⟩ := hL
  clear hd0 hd1 hd5 hd7 hd9 hd10 hd11
  obtain rfl := Option.some.inj ((show Tryz.prog.globalNamed "internal/strconv.float32info" = some 7 by kernel_rfl).symm.trans hg2)
  obtain rfl := Option.some.inj ((show Tryz.prog.globalNamed "internal/strconv.float64info" = some 9 by kernel_rfl).symm.trans hg3)
  obtain rfl := Option.some.inj ((show Tryz.prog.globalNamed "internal/strconv.optimize" = some 8 by kernel_rfl).symm.trans hg4)
  obtain rfl := Option.some.inj ((show Tryz.prog.globalNamed "internal/strconv.float64pow10" = some 13 by kernel_rfl).symm.trans hg6)
  obtain rfl := Option.some.inj ((show Tryz.prog.globalNamed "internal/strconv.uint64pow10" = some 10 by kernel_rfl).symm.trans hg8)
  obtain rfl := Option.some.inj ((show Tryz.prog.globalNamed "strings.asciiSpace" = some 1 by kernel_rfl).symm.trans hg12)
  obtain rfl := Option.some.inj ((show (Tryz.prog.globals[7]?).map (·.type) = some 331 by kernel_rfl).symm.trans ht2)
  obtain rfl := Option.some.inj ((show (Tryz.prog.globals[9]?).map (·.type) = some 331 by kernel_rfl).symm.trans ht3)
  obtain rfl := Option.some.inj ((show (Tryz.prog.globals[8]?).map (·.type) = some 4 by kernel_rfl).symm.trans ht4)
  obtain rfl := Option.some.inj ((show (Tryz.prog.globals[13]?).map (·.type) = some 283 by kernel_rfl).symm.trans ht6)
  obtain rfl := Option.some.inj ((show (Tryz.prog.globals[10]?).map (·.type) = some 348 by kernel_rfl).symm.trans ht8)
  obtain rfl := Option.some.inj ((show (Tryz.prog.globals[1]?).map (·.type) = some 264 by kernel_rfl).symm.trans ht12)
  have x12 : Rows.laid_strings_asciiSpace = (.agg ((lits Rows.laid_strings_asciiSpace).map .lit) : DataW Unit) := by kernel_rfl
  have x8 : Rows.laid_internal_strconv_uint64pow10 = (.agg ((lits Rows.laid_internal_strconv_uint64pow10).map .lit) : DataW Unit) := by kernel_rfl
  have x2 : Rows.laid_internal_strconv_float32info = (.agg ((lits Rows.laid_internal_strconv_float32info).map .lit) : DataW Unit) := by kernel_rfl
  have x3 : Rows.laid_internal_strconv_float64info = (.agg ((lits Rows.laid_internal_strconv_float64info).map .lit) : DataW Unit) := by kernel_rfl
  have x4 : Rows.laid_internal_strconv_optimize = (.lit (unlit Rows.laid_internal_strconv_optimize) : DataW Unit) := by kernel_rfl
  have x6 : Rows.laid_internal_strconv_float64pow10 = (.slice ((lits Rows.laid_internal_strconv_float64pow10).map .lit) [] : DataW Unit) := by kernel_rfl
  have y12 := (congrArg (fun d => some (d, p12)) x12)
  have k12 := lits_of_array (e := 5) (n := 256) Tryz.underlying264 (by kernel_rfl) (by kernel_rfl) (hd12.trans (congrArg (fun d => some (d, p12)) x12))
  have k8 := lits_of_array (e := 34) (n := 20) Tryz.underlying348 (by kernel_rfl) (by kernel_rfl) (hd8.trans (congrArg (fun d => some (d, p8)) x8))
  have hst : ∀ (i : Nat) (f : Field), (#[{ name := "mantbits", type := 271, offset := 0, embedded := false, tag := "", pkgPath := "internal/strconv", byteOffset := 0 }, { name := "expbits", type := 271, offset := 1, embedded := false, tag := "", pkgPath := "internal/strconv", byteOffset := 8 }, { name := "bias", type := 3, offset := 2, embedded := false, tag := "", pkgPath := "internal/strconv", byteOffset := 16 }] : Array Field)[i]? = some f → f.offset = i ∧ Tryz.prog.cellsOf f.type = 1 := by
    intro i f hf
    have ct174 : Tryz.prog.cellsOf 271 = 1 := by kernel_rfl
    have ct3 : Tryz.prog.cellsOf 3 = 1 := by kernel_rfl
    match i, hf with
    | 0, hf => simp at hf; subst hf; exact ⟨rfl, ct174⟩
    | 1, hf => simp at hf; subst hf; exact ⟨rfl, ct174⟩
    | 2, hf => simp at hf; subst hf; exact ⟨rfl, ct3⟩
    | n + 3, hf => simp at hf
  have k2 := lits_of_struct Tryz.underlying331 hst (by kernel_rfl) (hd2.trans (congrArg (fun d => some (d, p2)) x2))
  have k3 := lits_of_struct Tryz.underlying331 hst (by kernel_rfl) (hd3.trans (congrArg (fun d => some (d, p3)) x3))
  have k4 := lit_cells (hd4.trans (congrArg (fun d => some (d, p4)) x4))
  have k6 := ref_of_slice (g := 13) (F := fun b o v => W.cell? ⟨b, o, none⟩ = some v) (e := 35) Tryz.underlying283 (by kernel_rfl) (by rw [← List.length_pos_iff]; exact of_decide_eq_true (by kernel_rfl)) (hd6.trans (congrArg (fun d => some (d, p6)) x6)) (fun _ _ _ h => h) (cells_of hg6 hv6)
  intro g
  have hg : g = 1 ∨ g = 7 ∨ g = 8 ∨ g = 9 ∨ g = 10 ∨ g = 13 ∨ globT g = [] := by
    unfold globT
    split <;> simp
  rcases hg with rfl | rfl | rfl | rfl | rfl | rfl | h
  · exact ref_of_lits k12 (cells_of hg12 hv12)
  · exact ref_of_lits k2 (cells_of hg2 hv2)
  · exact ref_of_lits (ls := [unlit Rows.laid_internal_strconv_optimize]) k4 (cells_of hg4 hv4)
  · exact ref_of_lits k3 (cells_of hg3 hv3)
  · exact ref_of_lits k8 (cells_of hg8 hv8)
  · exact k6
  · exact glob_none (W := W) g h

end Go.Proofs.YtcjebcenbimcgaaGreatDoor
