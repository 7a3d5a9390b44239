/- The reading of swaps, whole; their tree. -/
/- The plain law of swaps: what the reference reads the program can read. -/
/- The rows of swaps, read by the program. -/
/- The door of swaps. -/
/- What is written of swaps is read again; the law's frame: normal. -/
/- Reading of counters with names: numbers, sameness of names. -/
/- Counters of transformations: what is fine, what a text says. -/
/- Counters of transformations: the reference's reading. -/
/- Counters of transformations: the tree and the text. -/
/- Counters of transformations: their text. -/
/- Counters of transformations: the program's reading, whole. -/
/- Counters of transformations: what is written is read, and the laws. -/
/- Rows of an argument: what fits. -/
/- What is written is read as its tree: the law. -/
import Derived.Test.YtkpjijiiegdcaaaGreatDoorMas
import Derived.Test.YtkpjijiiegdcaaaGreatDoorMao
import Derived.Test.YtkpjijiiegdcaaaGreatDoorMar
import Derived.Test.YtkpjijiiegdcaaaGreatDoorMam
set_option linter.unusedSimpArgs false
set_option linter.unusedVariables false
namespace Go.Ev
open Go.Proofs

def swFit (l : List RowD) : Prop := l.length ≤ 40000 ∧ (∀ r ∈ l, r.fits2) ∧ ∀ r ∈ l, r.name.length ≤ 40000 ∧ ∀ s ∈ r.S, s.length ≤ 40000

theorem swFit.two {l : List RowD} (h : swFit l) : rowsFit2 l := ⟨by have := h.1; omega, h.2.1⟩

/-! ### The tree -/

end Go.Ev

set_option linter.unusedSimpArgs false
set_option linter.unusedVariables false
namespace Go.Ev
open Go.Proofs

theorem fieldG_noblank : ∀ (s cur : List UInt8), (∀ c ∈ cur, blankC c = false) → ∀ f ∈ fieldG cur s, ∀ c ∈ f, blankC c = false
  | [], cur, h, f, hf => by
    simp only [fieldG] at hf
    split at hf
    · simp at hf
    · obtain rfl := List.mem_singleton.1 hf; exact h
  | c :: s, cur, h, f, hf => by
    simp only [fieldG] at hf
    split at hf
    · split at hf
      · exact fieldG_noblank s [] (by simp) f hf
      · rcases List.mem_cons.1 hf with rfl | hf
        · exact h
        · exact fieldG_noblank s [] (by simp) f hf
    · rename_i hb
      refine fieldG_noblank s (cur ++ [c]) (fun d hd => ?_) f hf
      rcases List.mem_append.1 hd with hd | hd
      · exact h d hd
      · obtain rfl := List.mem_singleton.1 hd; simpa using hb

theorem fieldG_skip : ∀ (k : Nat) (rest : List UInt8), fieldG [] (List.replicate k 32 ++ rest) = fieldG [] rest
  | 0, rest => rfl
  | k + 1, rest => by
    rw [List.replicate_succ, List.cons_append]
    simp only [fieldG]
    rw [if_pos (show blankC 32 = true by decide)]
    simp only [if_true]
    exact fieldG_skip k rest

theorem fieldG_word : ∀ (w cur rest : List UInt8), (∀ c ∈ w, blankC c = false) → fieldG cur (w ++ rest) = fieldG (cur ++ w) rest
  | [], cur, rest, _ => by simp
  | c :: w, cur, rest, h => by
    have h1 := h c (by simp)
    simp only [List.cons_append, fieldG, h1, Bool.false_eq_true, if_false]
    rw [fieldG_word w (cur ++ [c]) rest (fun x hx => h x (by simp [hx]))]
    simp

theorem fieldG_sep {w rest : List UInt8} {c : UInt8} (hw : w ≠ []) (h : ∀ c ∈ w, blankC c = false) (hc : blankC c = true) : fieldG [] (w ++ c :: rest) = w :: fieldG [] rest := by
  rw [fieldG_word w [] _ h]
  simp [fieldG, hc, hw]

theorem fieldG_last {w : List UInt8} (hw : w ≠ []) (h : ∀ c ∈ w, blankC c = false) : fieldG [] w = [w] := by
  have := fieldG_word w [] [] h
  simp only [List.append_nil, List.nil_append] at this
  rw [this]; simp [fieldG, hw]

theorem fieldG_left {w rest : List UInt8} {n : Nat} (hw : w ≠ []) (h : ∀ c ∈ w, blankC c = false) : fieldG [] (leftS w n ++ 32 :: rest) = w :: fieldG [] rest := by
  unfold leftS
  rw [List.append_assoc]
  cases hk : n - w.length with
  | zero => exact fieldG_sep hw h (by decide)
  | succ k =>
    rw [List.replicate_succ, List.cons_append, fieldG_sep hw h (by decide)]
    have := fieldG_skip (k + 1) rest
    rw [show List.replicate k 32 ++ 32 :: rest = List.replicate (k + 1) 32 ++ rest from by rw [List.replicate_succ']; simp, this]

theorem wordC_blank {c : UInt8} (h : wordC c = true) : blankC c = false ∧ c.toNat ≠ 10 := by
  simp only [wordC, Bool.and_eq_true, decide_eq_true_eq] at h
  refine ⟨?_, by omega⟩
  simp [blankC]; omega

theorem digC_blank {c : UInt8} (h : digC c = true) : blankC c = false ∧ c.toNat ≠ 10 := by
  have := digC_iff.1 h
  refine ⟨?_, by omega⟩
  simp [blankC]; omega

theorem leftS_mem {s : List UInt8} {n : Nat} {c : UInt8} (h : c ∈ leftS s n) : c ∈ s ∨ c = 32 := by
  unfold leftS at h
  rcases List.mem_append.1 h with h | h
  · exact .inl h
  · exact .inr (List.mem_replicate.1 h).2

theorem lineG_lines : ∀ (ls : List (List UInt8)), (∀ l ∈ ls, ∀ c ∈ l, c.toNat ≠ 10) → lineG [] (ls.map fun l => l ++ [10]).flatten = ls
  | [], _ => rfl
  | l :: ls, h => by
    simp only [List.map_cons, List.flatten_cons, List.append_assoc, List.cons_append, List.nil_append]
    rw [lineG_no (cur := []) l _ (h l (by simp))]
    simp only [lineG, List.nil_append]
    rw [if_pos (by rfl), lineG_lines ls (fun x hx => h x (by simp [hx]))]

end Go.Ev

set_option linter.unusedSimpArgs false
set_option linter.unusedVariables false
namespace Go.Ev
open Go.Proofs

end Go.Ev

set_option linter.unusedSimpArgs false
set_option linter.unusedVariables false
namespace Go.Ev
open Go.Proofs

end Go.Ev

set_option linter.unusedSimpArgs false
set_option linter.unusedVariables false
namespace Go.Ev
open Go.Proofs

theorem wordC_plain {c : UInt8} (h : wordC c = true) : plainC c = true := by
  simp only [wordC, Bool.and_eq_true, decide_eq_true_eq] at h
  simp [plainC]; omega

theorem digC_plain {c : UInt8} (h : digC c = true) : plainC c = true := by
  have := digC_iff.1 h
  simp [plainC]; omega

/-! ### normal -/

theorem ev13_long (E : Env) (h : E.code 14 = some c13) (w p d : Nat) (s : List UInt8) (hs : 40000 < s.length) (n : Nat) : evP E n 14 [.str s, .fn w [] [], .fn p [] [], .fn d [] []] = some (.sv (.bool true)) := by
  unfold evP
  simp only [h]
  have e : (40000 : Int) < (s.length : Int) := by omega
  simp [c13, List.replicate, e]

set_option maxHeartbeats 1000000 in
theorem ev13_yes (E : Env) (h : E.code 14 = some c13) (w p d : Nat) (Fw Fp Fd : List SV → Option AV) (hw : E.pure w = some Fw) (hp : E.pure p = some Fp) (hd : E.pure d = some Fd) (h25 : E.pure 22 = some F25) (h26 : E.pure 23 = some F26) (h27 : E.pure 24 = some F27) (s o : List UInt8) (hs : s.length ≤ 40000) (rows : List SV) (T : SV) (hT : IsNode T)
    (hFw : Fw [.str s] = some (.sv (.tup [.sl rows, .bool true, .int .i64 1]))) (hFp : Fp [.sl rows] = some (.sv (.tup [.str o, .int .i64 1]))) (hFd : Fd [.str s] = some (.sv (.tup [T, .int .i64 0]))) (hFo : o.length ≤ 40000 → Fd [.str o] = some (.sv (.tup [T, .int .i64 0]))) (n : Nat) :
    evP E n 14 [.str s, .fn w [] [], .fn p [] [], .fn d [] []] = some (.sv (.bool true)) := by
  unfold evP
  simp only [h]
  have e : ¬ (40000 : Int) < (s.length : Int) := by omega
  have hF27 : F27 [T] = some (.sv T) := onlyIf_pos hT
  have hF26 : F26 [T, T] = some (.sv (.bool true)) := onlyIf_pos ⟨hT, rfl⟩
  cases hT with
  | mk name kind b i u f s0 kids hl hk =>
    simp only [nodeV] at hFd hFo hF27 hF26
    by_cases ho : o.length ≤ 40000
    · have eo : ¬ (40000 : Int) < (o.length : Int) := by omega
      have hFo := hFo ho
      simp [c13, List.replicate, e, hw, hFw, hp, hFp, eo, hd, hFd, hFo, h27, hF27, h26, hF26, h25, F25]
    · have eo : (40000 : Int) < (o.length : Int) := by omega
      simp [c13, List.replicate, e, hw, hFw, hp, hFp, eo, h25, F25]

end Go.Ev

set_option linter.unusedSimpArgs false
set_option linter.unusedVariables false
namespace Go.Ev
open Go.Proofs

/-- Rows as an argument may hold them. -/
def RowD.fits3 (r : RowD) : Prop := r.name.length < 2147483648 ∧ r.N.length < 100000000000 ∧ (∀ n ∈ r.N, n < 18446744073709551616) ∧ r.S.length < 2147483648 ∧ ∀ s ∈ r.S, s.length < 2147483648

def rowsFit3 (l : List RowD) : Prop := l.length < 100000000 ∧ ∀ r ∈ l, r.fits3

def distP (pre : List (List UInt8)) : List (List UInt8) → Bool
  | [] => true
  | c :: rest => pre.all (fun p => !(c == p)) && distP (pre ++ [c]) rest

theorem loop1084_0 (E : Env) (cf : CallF) (l : List RowD) (hs : l.length < 1000000000) (m i : Nat) (r : RowD) (hi : l[i]? = some r) :
    ∀ (rest pre : List RowD) (k : Nat), l.take i = pre ++ rest → rest.length < k →
      rounds (evC E cf m b1084_0) k { tm := [.sv (.sl (rowsSV l)), .sv .undef, .sv .undef, .sv (.int .i64 i), .sv .undef, .sv .undef, .sv (.int .i64 l.length), .sv (.int .i64 i), .sv .undef, .sv .undef, .sv (.int .i64 i), .sv (.int .i64 pre.length)] ++ List.replicate 15 (.sv .undef), lz := none, bx := [], df := [] } =
        if rest.all (fun p => !(r.name == p.name)) = true then some (.exit 2, { tm := [.sv (.sl (rowsSV l)), .sv .undef, .sv .undef, .sv .undef, .sv .undef, .sv .undef, .sv (.int .i64 l.length), .sv (.int .i64 i)] ++ List.replicate 19 (.sv .undef), lz := none, bx := [], df := [] })
        else some (.ret, { tm := [.sv .undef, .sv .undef, .sv (.bool false)] ++ List.replicate 24 (.sv .undef), lz := none, bx := [], df := [] }) := by
  have hil : i < l.length := (List.getElem?_eq_some_iff.1 hi).1
  have hri : l[i]'hil = r := (List.getElem?_eq_some_iff.1 hi).2
  intro rest
  induction rest with
  | nil =>
    intro pre k hsp hk
    obtain ⟨k, rfl⟩ : ∃ k', k = k' + 1 := ⟨k - 1, by omega⟩
    have hlt : ¬ (pre.length < i) := by have := congrArg List.length hsp; simp at this; omega
    refine rounds_out ?_ (by simp)
    simp [b1084_0, List.replicate, hlt]
  | cons p rest ih =>
    intro pre k hsp hk
    obtain ⟨k, rfl⟩ : ∃ k', k = k' + 1 := ⟨k - 1, by omega⟩
    have hlen : i = pre.length + (rest.length + 1) := by have := congrArg List.length hsp; simp at this; omega
    have hlt : pre.length < i := by omega
    have hpl : pre.length < l.length := by omega
    have hp : l[pre.length]? = some p := by
      have := congrArg (fun q => q[pre.length]?) hsp
      simpa [List.getElem?_take, hlt] using this
    have hpe : l[pre.length]'hpl = p := (List.getElem?_eq_some_iff.1 hp).2
    have hsl : (rowsSV l).length = l.length := by simp [rowsSV]
    have c1 : ∀ h : i < (rowsSV l).length, (rowsSV l)[i]'h = .agg [.str r.name, .sl (u64s r.N), .sl (strs r.S)] := fun h => by simp [rowsSV, hri, RowD.sv]
    have c2 : ∀ h : pre.length < (rowsSV l).length, (rowsSV l)[pre.length]'h = .agg [.str p.name, .sl (u64s p.N), .sl (strs p.S)] := fun h => by simp [rowsSV, hpe, RowD.sv]
    have hw2 : IntKind.i64.wrap ((pre.length : Int) + 1) = ((pre ++ [p]).length : Int) := by rw [IntKind.wrap_i64]; simp; omega
    by_cases he : r.name = p.name
    · have e1 : (r.name == p.name) = true := by simpa using he
      rw [if_neg (by simp [e1])]
      refine rounds_out ?_ (by simp)
      simp [b1084_0, List.replicate, hlt, hil, hpl, hsl, c1, c2, he]
    · have e1 : (r.name == p.name) = false := by simpa using he
      have := ih (pre ++ [p]) k (by rw [hsp]; simp) (by simp at hk; omega)
      rw [show (p :: rest).all (fun p => !(r.name == p.name)) = rest.all (fun p => !(r.name == p.name)) from by simp [e1], ← this]
      refine rounds_step ?_
      simp [b1084_0, List.replicate, hlt, hil, hpl, hsl, c1, c2, he, e1, hw2]

theorem loop1084_1 (E : Env) (cf : CallF) (l : List RowD) (hs : l.length < 1000000000) (m : Nat) (hm : l.length < m) :
    ∀ (rest pre : List RowD) (k : Nat), l = pre ++ rest → rest.length < k →
      rounds (evC E cf m b1084_1) k { tm := [.sv (.sl (rowsSV l)), .sv .undef, .sv .undef, .sv .undef, .sv .undef, .sv .undef, .sv (.int .i64 l.length), .sv (.int .i64 pre.length)] ++ List.replicate 19 (.sv .undef), lz := none, bx := [], df := [] } =
        if distP (pre.map RowD.name) (rest.map RowD.name) = true then some (.exit 0, { tm := List.replicate 27 (.sv .undef), lz := none, bx := [], df := [] })
        else some (.ret, { tm := [.sv .undef, .sv .undef, .sv (.bool false)] ++ List.replicate 24 (.sv .undef), lz := none, bx := [], df := [] }) := by
  intro rest
  induction rest with
  | nil =>
    intro pre k hsp hk
    obtain ⟨k, rfl⟩ : ∃ k', k = k' + 1 := ⟨k - 1, by omega⟩
    have hlt : ¬ (pre.length < l.length) := by rw [hsp]; simp
    refine rounds_out ?_ (by simp)
    simp [b1084_1, List.replicate, hlt, distP]
  | cons r rest ih =>
    intro pre k hsp hk
    obtain ⟨k, rfl⟩ : ∃ k', k = k' + 1 := ⟨k - 1, by omega⟩
    have hlt : pre.length < l.length := by rw [hsp]; simp
    have hi : l[pre.length]? = some r := by rw [hsp]; simp
    have hin := loop1084_0 E cf l hs m pre.length r hi pre [] m (by rw [hsp]; simp) (by omega)
    simp only [List.replicate, List.cons_append, List.nil_append, List.length_nil, Int.ofNat_zero, Int.natCast_zero] at hin
    have hw2 : IntKind.i64.wrap ((pre.length : Int) + 1) = ((pre ++ [r]).length : Int) := by rw [IntKind.wrap_i64]; simp; omega
    have hmap : (pre.map RowD.name).all (fun p => !(r.name == p)) = pre.all (fun p => !(r.name == p.name)) := by simp [List.all_map, Function.comp_def]
    cases hc : pre.all (fun p => !(r.name == p.name)) with
    | false =>
      rw [hc, if_neg (by simp)] at hin
      rw [if_neg (by simp only [List.map_cons, distP, hmap, hc]; simp)]
      refine rounds_out ?_ (by simp)
      simp [b1084_1, List.replicate, hlt, hin]
    | true =>
      rw [hc, if_pos rfl] at hin
      have := ih (pre ++ [r]) k (by rw [hsp]; simp) (by simp at hk; omega)
      rw [show distP (pre.map RowD.name) ((r :: rest).map RowD.name) = distP ((pre ++ [r]).map RowD.name) (rest.map RowD.name) from by simp [distP, hmap, hc], ← this]
      refine rounds_step ?_
      simp [b1084_1, List.replicate, hlt, hin, hw2]

theorem ev1084 (E : Env) (h : E.code 59 = some c1084) (l : List RowD) (hs : l.length < 1000000000) (n : Nat) (hn : l.length < n) :
    evP E n 59 [.sl (rowsSV l)] = some (.sv (.bool (distP [] (l.map RowD.name)))) := by
  unfold evP
  simp only [h]
  have hsl : (rowsSV l).length = l.length := by simp [rowsSV]
  have hl := loop1084_1 E (evF E n) l hs n hn l [] n rfl hn
  simp only [List.replicate, List.cons_append, List.nil_append, List.length_nil, Int.ofNat_zero, Int.natCast_zero, List.map_nil] at hl
  cases hv : distP [] (l.map RowD.name) with
  | true => simp only [hv, if_true] at hl; simp [c1084, List.replicate, hl, hsl]
  | false => simp only [hv, Bool.false_eq_true, if_false] at hl; simp [c1084, List.replicate, hl, hsl]

noncomputable def F1084 : List SV → Option AV
  | [.sl l] => onlyIf (l = rowsSV (l.map unrow) ∧ l.length < 1000000000) (some (.sv (.bool (distP [] ((l.map unrow).map RowD.name)))))
  | _ => none

theorem F1084_eq (l : List RowD) (h : l.length < 1000000000) : F1084 [.sl (rowsSV l)] = some (.sv (.bool (distP [] (l.map RowD.name)))) := by
  unfold F1084
  simp only [unrows]
  exact onlyIf_pos ⟨trivial, by simpa [rowsSV] using h⟩

/-! ### So many numbers of so many bits -/

end Go.Ev

set_option linter.unusedSimpArgs false
set_option linter.unusedVariables false
namespace Go.Ev
open Go.Proofs

end Go.Ev

set_option linter.unusedSimpArgs false
set_option linter.unusedVariables false
namespace Go.Ev
open Go.Proofs

end Go.Ev

set_option linter.unusedSimpArgs false
set_option linter.unusedVariables false
namespace Go.Ev
open Go.Proofs

/-! ### The text -/

end Go.Ev

set_option linter.unusedSimpArgs false
set_option linter.unusedVariables false
namespace Go.Ev
open Go.Proofs

end Go.Ev

set_option linter.unusedSimpArgs false
set_option linter.unusedVariables false
namespace Go.Ev
open Go.Proofs

theorem map_set_at {α β : Type} [DecidableEq α] {f : α → β} {v : β} {s : α} : ∀ {L : List α} (_ : L.Nodup) {i : Nat} (_ : L[i]? = some s), (L.map f).set i v = L.map (fun x => if s = x then v else f x)
  | [], _, i, hi => by simp at hi
  | a :: L, hnd, i, hi => by
    obtain ⟨h1, h2⟩ := List.nodup_cons.1 hnd
    cases i with
    | zero =>
      simp only [List.getElem?_cons_zero, Option.some.injEq] at hi
      subst hi
      simp only [List.map_cons, List.set_cons_zero, if_true, List.cons.injEq, true_and]
      apply List.map_congr_left
      intro x hx
      rw [if_neg]
      rintro rfl; exact h1 hx
    | succ i =>
      simp only [List.getElem?_cons_succ] at hi
      have hne : s ≠ a := by rintro rfl; exact h1 (List.mem_of_getElem? hi)
      simp only [List.map_cons, List.set_cons_succ, if_neg hne]
      rw [map_set_at h2 hi]

theorem plain13 {c : UInt8} (h : plainC c = true) : c.toNat < 128 ∧ c.toNat ≠ 13 := by
  unfold plainC at h
  simp only [Bool.and_eq_true, Bool.or_eq_true, decide_eq_true_eq, beq_iff_eq] at h
  omega

end Go.Ev

set_option linter.unusedSimpArgs false
set_option linter.unusedVariables false
namespace Go.Ev
open Go.Proofs

theorem ev9_opn (E : Env) (h : E.code 16 = some c9) (w t d : Nat) (Fw : List SV → Option AV) (hw : E.pure w = some Fw) (h25 : E.pure 22 = some F25) (s : List UInt8) (hs : s.length ≤ 40000) (l : List SV) (b : Bool)
    (hF : Fw [.str s] = some (.sv (.tup [.sl l, .bool b, .int .i64 2]))) (n : Nat) : evP E n 16 [.str s, .fn w [] [], .fn t [] [], .fn d [] []] = some (.sv (.bool true)) := by
  unfold evP
  simp only [h]
  have e : ¬ (40000 : Int) < (s.length : Int) := by omega
  simp [c9, List.replicate, e, hw, hF, h25, F25]

theorem ev13_opn (E : Env) (h : E.code 14 = some c13) (w p d : Nat) (Fw : List SV → Option AV) (hw : E.pure w = some Fw) (h25 : E.pure 22 = some F25) (s : List UInt8) (hs : s.length ≤ 40000) (l : List SV) (b : Bool)
    (hF : Fw [.str s] = some (.sv (.tup [.sl l, .bool b, .int .i64 2]))) (n : Nat) : evP E n 14 [.str s, .fn w [] [], .fn p [] [], .fn d [] []] = some (.sv (.bool true)) := by
  unfold evP
  simp only [h]
  have e : ¬ (40000 : Int) < (s.length : Int) := by omega
  cases b <;> simp [c13, List.replicate, e, hw, hF, h25, F25]

end Go.Ev

set_option linter.unusedSimpArgs false
set_option linter.unusedVariables false
namespace Go.Ev
open Go.Proofs

def zzS (S : List (List UInt8)) : Bool := decide (S.length ≤ 2147483647) && S.all fun s => decide (s.length ≤ 2147483647)
def zzRow (r : RowD) : Bool := decide (r.name.length ≤ 2147483647) && decide (r.N.length ≤ 2147483647) && zzS r.S
def zzRows (l : List RowD) : Bool := decide (l.length ≤ 2147483647) && l.all zzRow

theorem loop1080 (E : Env) (cf : CallF) (xs : List SV) (hs : xs.length < 1000000000000) (m : Nat) :
    ∀ (rest : List (List UInt8)) (pre : List SV) (k : Nat), xs = pre ++ strs rest → rest.length < k →
      rounds (evC E cf m b1080_0) k { tm := List.replicate 8 (.sv .undef) ++ [.sv (.sl xs), .sv (.int .i64 xs.length), .sv (.int .i64 pre.length)] ++ List.replicate 7 (.sv .undef), lz := none, bx := [], df := [] } =
        if rest.all (fun s => decide (s.length ≤ 2147483647)) = true then some (.exit 0, { tm := List.replicate 18 (.sv .undef), lz := none, bx := [], df := [] })
        else some (.ret, { tm := [.sv .undef, .sv .undef, .sv (.bool false)] ++ List.replicate 15 (.sv .undef), lz := none, bx := [], df := [] }) := by
  intro rest
  induction rest with
  | nil =>
    intro pre k hsp hk
    obtain ⟨k, rfl⟩ : ∃ k', k = k' + 1 := ⟨k - 1, by omega⟩
    have hlt : ¬ (pre.length < xs.length) := by rw [hsp]; simp [strs]
    refine rounds_out ?_ (by simp)
    simp [b1080_0, List.replicate, hlt]
  | cons c rest ih =>
    intro pre k hsp hk
    obtain ⟨k, rfl⟩ : ∃ k', k = k' + 1 := ⟨k - 1, by omega⟩
    have hlt : pre.length < xs.length := by rw [hsp]; simp [strs]
    have hc : ∀ h : pre.length < xs.length, xs[pre.length]'h = .str c := by subst hsp; simp [strs]
    have hw2 : IntKind.i64.wrap ((pre.length : Int) + 1) = ((pre ++ [SV.str c]).length : Int) := by rw [IntKind.wrap_i64]; simp; omega
    by_cases h1 : c.length ≤ 2147483647
    · have e : ¬ (2147483647 : Int) < (c.length : Int) := by omega
      have := ih (pre ++ [.str c]) k (by rw [hsp]; simp [strs]) (by simp at hk; omega)
      rw [show (c :: rest).all (fun s => decide (s.length ≤ 2147483647)) = rest.all (fun s => decide (s.length ≤ 2147483647)) from by simp [h1], ← this]
      refine rounds_step ?_
      simp [b1080_0, List.replicate, hlt, hc, e, hw2]
    · have e : (2147483647 : Int) < (c.length : Int) := by omega
      rw [if_neg (by simp [h1])]
      refine rounds_out ?_ (by simp)
      simp [b1080_0, List.replicate, hlt, hc, e]

theorem ev1080 (E : Env) (h : E.code 55 = some c1080) (S : List (List UInt8)) (n : Nat) (hn : S.length < n ∨ 2147483647 < S.length) : evP E n 55 [.sl (strs S)] = some (.sv (.bool (zzS S))) := by
  unfold evP
  simp only [h]
  have hst : (strs S).length = S.length := strs_length S
  unfold zzS
  by_cases h1 : S.length ≤ 2147483647
  · have e : ¬ (2147483647 : Int) < (S.length : Int) := by omega
    have hl := loop1080 E (evF E n) (strs S) (by omega) n S [] n rfl (by omega)
    simp only [List.replicate, List.cons_append, List.nil_append, List.length_nil, Int.ofNat_zero, Int.natCast_zero, hst] at hl
    cases hv : S.all (fun s => decide (s.length ≤ 2147483647)) with
    | false => simp only [hv, Bool.false_eq_true, if_false] at hl; simp [c1080, List.replicate, hl, hst, e, h1]
    | true => simp only [hv, if_true] at hl; simp [c1080, List.replicate, hl, hst, e, h1]
  · have e : (2147483647 : Int) < (S.length : Int) := by omega
    simp [c1080, List.replicate, hst, e, h1]

noncomputable def F1080 : List SV → Option AV
  | [.sl l] => onlyIf (l = strs (l.map unstr)) (some (.sv (.bool (zzS (l.map unstr)))))
  | _ => none

theorem ev1035 (E : Env) (h : E.code 21 = some c1035) (h80 : E.pure 55 = some F1080) (r : RowD) (n : Nat) : evP E n 21 [.agg [.str r.name, .sl (u64s r.N), .sl (strs r.S)]] = some (.sv (.bool (zzRow r))) := by
  unfold evP
  simp only [h]
  have hsl : (u64s r.N).length = r.N.length := u64s_length r.N
  have hF : F1080 [.sl (strs r.S)] = some (.sv (.bool (zzS r.S))) := by
    unfold F1080
    simp only [unstrs]
    exact onlyIf_pos trivial
  unfold zzRow
  by_cases h1 : r.name.length ≤ 2147483647
  · have e : ¬ (2147483647 : Int) < (r.name.length : Int) := by omega
    by_cases h2 : r.N.length ≤ 2147483647
    · have e2 : ¬ (2147483647 : Int) < (r.N.length : Int) := by omega
      cases hz : zzS r.S <;> rw [hz] at hF <;> simp [c1035, List.replicate, e, e2, h1, h2, hsl, h80, hF]
    · have e2 : (2147483647 : Int) < (r.N.length : Int) := by omega
      simp [c1035, List.replicate, e, e2, h1, h2, hsl]
  · have e : (2147483647 : Int) < (r.name.length : Int) := by omega
    simp [c1035, List.replicate, e, h1]

noncomputable def F1035 : List SV → Option AV
  | [.agg [.str s, .sl ns, .sl ss]] => onlyIf (SV.agg [.str s, .sl ns, .sl ss] = (unrow (.agg [.str s, .sl ns, .sl ss])).sv) (some (.sv (.bool (zzRow (unrow (.agg [.str s, .sl ns, .sl ss]))))))
  | _ => none

theorem F1035_eq (r : RowD) : F1035 [.agg [.str r.name, .sl (u64s r.N), .sl (strs r.S)]] = some (.sv (.bool (zzRow r))) := by
  have hu : unrow (.agg [.str r.name, .sl (u64s r.N), .sl (strs r.S)]) = r := unrow_sv r
  unfold F1035
  simp only [hu]
  exact onlyIf_pos rfl

theorem loop1015 (E : Env) (cf : CallF) (h35 : E.pure 21 = some F1035) (xs : List SV) (hs : xs.length < 1000000000000) (m : Nat) :
    ∀ (rest : List RowD) (pre : List SV) (bx : List Box) (k : Nat), xs = pre ++ rowsSV rest → rest.length < k →
      ∃ bx', rounds (evC E cf m b1015_0) k { tm := List.replicate 8 (.sv .undef) ++ [.sv (.sl xs), .sv (.int .i64 xs.length), .sv (.int .i64 pre.length)] ++ List.replicate 7 (.sv .undef), lz := none, bx := bx, df := [] } =
        if rest.all zzRow = true then some (.exit 0, { tm := List.replicate 18 (.sv .undef), lz := none, bx := bx', df := [] })
        else some (.ret, { tm := [.sv .undef, .sv .undef, .sv (.bool false)] ++ List.replicate 15 (.sv .undef), lz := none, bx := bx', df := [] }) := by
  intro rest
  induction rest with
  | nil =>
    intro pre bx k hsp hk
    obtain ⟨k, rfl⟩ : ∃ k', k = k' + 1 := ⟨k - 1, by omega⟩
    have hlt : ¬ (pre.length < xs.length) := by rw [hsp]; simp [rowsSV]
    refine ⟨bx, rounds_out ?_ (by simp)⟩
    simp [b1015_0, List.replicate, hlt]
  | cons r rest ih =>
    intro pre bx k hsp hk
    obtain ⟨k, rfl⟩ : ∃ k', k = k' + 1 := ⟨k - 1, by omega⟩
    have hlt : pre.length < xs.length := by rw [hsp]; simp [rowsSV]
    have hc : ∀ h : pre.length < xs.length, xs[pre.length]'h = .agg [.str r.name, .sl (u64s r.N), .sl (strs r.S)] := by subst hsp; simp [rowsSV, RowD.sv]
    have hw2 : IntKind.i64.wrap ((pre.length : Int) + 1) = ((pre ++ [r.sv]).length : Int) := by rw [IntKind.wrap_i64]; simp; omega
    have hF := F1035_eq r
    obtain ⟨bx', he⟩ := ih (pre ++ [r.sv]) (bx ++ [rowBox r]) k (by rw [hsp]; simp [rowsSV]) (by simp at hk; omega)
    cases hz : zzRow r with
    | false =>
      rw [hz] at hF
      refine ⟨bx ++ [rowBox r], ?_⟩
      rw [if_neg (by simp [hz])]
      refine rounds_out ?_ (by simp)
      simp [b1015_0, List.replicate, hlt, hc, h35, hF, rowBox]
    | true =>
      rw [hz] at hF
      refine ⟨bx', ?_⟩
      rw [show (r :: rest).all zzRow = rest.all zzRow from by simp [hz], ← he]
      refine rounds_step ?_
      simp [b1015_0, List.replicate, hlt, hc, h35, hF, rowBox, hw2]

theorem ev1015 (E : Env) (h : E.code 9 = some c1015) (h35 : E.pure 21 = some F1035) (l : List RowD) (n : Nat) (hn : l.length < n ∨ 2147483647 < l.length) : evP E n 9 [.sl (rowsSV l)] = some (.sv (.bool (zzRows l))) := by
  unfold evP
  simp only [h]
  have hst : (rowsSV l).length = l.length := by simp [rowsSV]
  unfold zzRows
  by_cases h1 : l.length ≤ 2147483647
  · have e : ¬ (2147483647 : Int) < (l.length : Int) := by omega
    obtain ⟨bx', hl⟩ := loop1015 E (evF E n) h35 (rowsSV l) (by omega) n l [] [] n rfl (by omega)
    simp only [List.replicate, List.cons_append, List.nil_append, List.length_nil, Int.ofNat_zero, Int.natCast_zero, hst] at hl
    cases hv : l.all zzRow with
    | false => simp only [hv, Bool.false_eq_true, if_false] at hl; simp [c1015, List.replicate, hl, hst, e, h1]
    | true => simp only [hv, if_true] at hl; simp [c1015, List.replicate, hl, hst, e, h1]
  · have e : (2147483647 : Int) < (l.length : Int) := by omega
    simp [c1015, List.replicate, hst, e, h1]

noncomputable def F1015 : List SV → Option AV
  | [.sl l] => onlyIf (l = rowsSV (l.map unrow)) (some (.sv (.bool (zzRows (l.map unrow)))))
  | _ => none

theorem F1015_eq (l : List RowD) : F1015 [.sl (rowsSV l)] = some (.sv (.bool (zzRows l))) := by
  unfold F1015
  simp only [unrows]
  exact onlyIf_pos trivial

end Go.Ev

set_option linter.unusedSimpArgs false
set_option linter.unusedVariables false
namespace Go.Ev
open Go.Proofs

theorem zzRows_fit {l : List RowD} (h : zzRows l = true) (hn : ∀ r ∈ l, ∀ n ∈ r.N, n < 18446744073709551616) (hl : l.length ≤ 1000) : rowsFit3 l := by
  unfold zzRows at h
  rw [Bool.and_eq_true, List.all_eq_true] at h
  refine ⟨by omega, fun r hr => ?_⟩
  have h1 := h.2 r hr
  unfold zzRow zzS at h1
  simp only [Bool.and_eq_true, decide_eq_true_eq, List.all_eq_true] at h1
  obtain ⟨⟨h2, h3⟩, h4, h5⟩ := h1
  exact ⟨by omega, by omega, hn r hr, by omega, fun s hs => by have := h5 s hs; omega⟩

set_option maxHeartbeats 1000000 in
theorem ev1016_long (E : Env) (h : E.code 10 = some c1016) (p t d : Nat) (l : List SV) (hl : 1000 < l.length) (n : Nat) : evP E n 10 [.sl l, .fn p [] [], .fn t [] [], .fn d [] []] = some (.sv (.bool true)) := by
  unfold evP
  simp only [h]
  have e : (1000 : Int) < (l.length : Int) := by omega
  simp [c1016, List.replicate, e]

set_option maxHeartbeats 1000000 in
theorem ev1016_open (E : Env) (h : E.code 10 = some c1016) (p t d : Nat) (Fp : List SV → Option AV) (hp : E.pure p = some Fp) (h25 : E.pure 22 = some F25) (l : List SV) (hl : l.length ≤ 1000) (o : List UInt8) (told : Int)
    (hF : Fp [.sl l] = some (.sv (.tup [.str o, .int .i64 told]))) (ht : told ≠ 1 ∨ 40000 < o.length) (n : Nat) : evP E n 10 [.sl l, .fn p [] [], .fn t [] [], .fn d [] []] = some (.sv (.bool true)) := by
  unfold evP
  simp only [h]
  have e : ¬ (1000 : Int) < (l.length : Int) := by omega
  by_cases h1 : told = 1
  · have e2 : (40000 : Int) < (o.length : Int) := by omega
    simp [c1016, List.replicate, e, hp, hF, h1, e2, h25, F25]
  · have h2 : (told == 1) = false := by simpa using h1
    have h3 : (told != 1) = true := by simp [bne, h2]
    simp [c1016, List.replicate, e, hp, hF, h1, h2, h3, h25, F25]

set_option maxHeartbeats 1000000 in
theorem ev1016_yes (E : Env) (h : E.code 10 = some c1016) (p t d : Nat) (Fp Ft Fd : List SV → Option AV) (hp : E.pure p = some Fp) (ht : E.pure t = some Ft) (hd : E.pure d = some Fd) (h25 : E.pure 22 = some F25) (h26 : E.pure 23 = some F26) (h27 : E.pure 24 = some F27) (l : List SV) (hl : l.length ≤ 1000) (o : List UInt8) (ho : o.length ≤ 40000) (T : SV) (hT : IsNode T)
    (hFp : Fp [.sl l] = some (.sv (.tup [.str o, .int .i64 1]))) (hFt : Ft [.sl l] = some (.sv (.tup [T, .int .i64 1]))) (hFd : Fd [.str o] = some (.sv (.tup [T, .int .i64 0]))) (n : Nat) :
    evP E n 10 [.sl l, .fn p [] [], .fn t [] [], .fn d [] []] = some (.sv (.bool true)) := by
  unfold evP
  simp only [h]
  have e : ¬ (1000 : Int) < (l.length : Int) := by omega
  have e2 : ¬ (40000 : Int) < (o.length : Int) := by omega
  have hF27 : F27 [T] = some (.sv T) := onlyIf_pos hT
  have hF26 : F26 [T, T] = some (.sv (.bool true)) := onlyIf_pos ⟨hT, rfl⟩
  cases hT with
  | mk name kind b i u f s0 kids hl hk =>
    simp only [nodeV] at hFt hFd hF27 hF26
    simp [c1016, List.replicate, e, e2, hp, hFp, hd, hFd, ht, hFt, h27, hF27, h26, hF26, h25, F25]

noncomputable def F1003 : List SV → Option AV
  | [.sl l] => onlyIf (l = rowsSV (l.map unrow) ∧ ∀ r ∈ l.map unrow, ∀ n ∈ r.N, n < 18446744073709551616) (some (.sv (.bool true)))
  | _ => none

end Go.Ev
