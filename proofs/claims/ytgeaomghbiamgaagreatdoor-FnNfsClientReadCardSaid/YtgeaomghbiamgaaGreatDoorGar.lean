/- Deferred closures that only look whether there is a panic; a deferred Close: lines printed by a program of this work (quiet.py). -/
/- A function that only looks into a box: what a scanner says of errors. -/
/- From a row's condition on its listed variables to what the evaluator reads in them. -/
/- Digits and numbers. -/
/- Numbers, texts of numbers. -/
/- Decimal digits. -/
/- Words, plain texts, sizes. -/
/- Lists of numbers. -/
/- Lists of texts joined, decimals. -/
/- Numbers joined, decimals read. -/
/- Lines and fields. -/
/- Lines and fields, whole. -/
/- Fields, whole; tables. -/
/- Tables, whole; what is written of rows of cgroups. -/
/- What is written of rows of cgroups. -/
/- What is written of rows of cgroups, whole. -/
/- meant, the reading of cgroups. -/
/- The reading of cgroups. -/
/- The reading of cgroups, whole. -/
/- The tree of cgroups. -/
/- The tree of cgroups, whole. -/
/- Trees of the laws: a copy is the same tree. -/
/- Trees of the laws: a copy is the same tree, whole. -/
/- A tree is the same as itself. -/
/- A tree is the same as itself, whole. -/
/- The door's small functions. -/
/- Scanners: what stands in their boxes. -/
/- A scanner's step. -/
import Derived.Test.YtgeaomghbiamgaaGreatDoorGah
import Derived.Test.YtgeaomghbiamgaaGreatDoorRows
import Derived.Tactics
import Derived.Tactics2
import Derived.Defers
import Derived.Recover
import Derived.LaidMore
import Derived.OpenShut
import Derived.Test.YtgeaomghbiamgaaGreatDoorGaj
import Derived.Laws.Bits64
import Derived.Laws.BitsLemmas
set_option linter.unusedSimpArgs false
set_option linter.unusedVariables false
namespace Go.Ev
open Go.Proofs

theorem quiet86 (args : Array Value) (w : World) : CallsD Tryz.prog 86 args .returning w fun e u' w' => (∃ v, e = .returned v) ∧ u' = .returning ∧ w' = w := by
  refine callsD_of_wpS Tryz.func86 rfl fun c₀ cs hu => ?_
  have hT : Tryz.f86.ntmps ≤ (args ++ Array.replicate (Tryz.f86.ntmps - args.size) undef).size := by simp; omega
  rw [Tryz.ntmps86] at hT ⊢
  generalize (args ++ Array.replicate (_ - args.size) undef) = T at hT
  have h2 : 2 < T.size := by omega
  have h3 : 3 < T.size := by omega
  apply wpS_seq
  apply wpS_region
  simp [wpOpsS, go_sem, recoverD, hu, Exit.thenS, h2, h3]
  refine wpS_cond (t := false) (by simp [Act.eval, h3]) ?_
  simp only [Bool.false_eq_true, if_false]
  refine wpS_of_wp (wp_skip ?_)
  cases c₀
  simp_all [bodyPostS, results, Tryz.results86]

theorem quiet130 (args : Array Value) (w : World) : CallsD Tryz.prog 130 args .returning w fun e u' w' => (∃ v, e = .returned v) ∧ u' = .returning ∧ w' = w := by
  refine callsD_of_wpS Tryz.func130 rfl fun c₀ cs hu => ?_
  have hT : Tryz.f130.ntmps ≤ (args ++ Array.replicate (Tryz.f130.ntmps - args.size) undef).size := by simp; omega
  rw [Tryz.ntmps130] at hT ⊢
  generalize (args ++ Array.replicate (_ - args.size) undef) = T at hT
  have h2 : 2 < T.size := by omega
  have h3 : 3 < T.size := by omega
  apply wpS_seq
  apply wpS_region
  simp [wpOpsS, go_sem, recoverD, hu, Exit.thenS, h2, h3]
  refine wpS_cond (t := false) (by simp [Act.eval, h3]) ?_
  simp only [Bool.false_eq_true, if_false]
  refine wpS_of_wp (wp_skip ?_)
  cases c₀
  simp_all [bodyPostS, results, Tryz.results130]

/-- The functions that only look whether there is a panic when they are deferred. -/
def quietT (f : Nat) : Bool := [86, 130].contains f

theorem quiet_ok (E : Env) (hE : E.quiet = quietT) : QuietOK Tryz.prog E := by
  intro f hf args w
  rw [hE] at hf
  simp only [quietT, List.contains_eq_mem, List.mem_cons, List.not_mem_nil, or_false, decide_eq_true_eq] at hf
  rcases hf with rfl | rfl
  · exact ⟨by simp [callFunc, Tryz.func86, show (Tryz.f86.name == "runtime.NumGoroutine") = false by kernel_rfl, show Tryz.f86.name ≠ "runtime.NumGoroutine" from of_decide_eq_true (by kernel_rfl), Tryz.f86], quiet86 args w⟩
  · exact ⟨by simp [callFunc, Tryz.func130, show (Tryz.f130.name == "runtime.NumGoroutine") = false by kernel_rfl, show Tryz.f130.name ≠ "runtime.NumGoroutine" from of_decide_eq_true (by kernel_rfl), Tryz.f130], quiet130 args w⟩

end Go.Ev

set_option linter.unusedSimpArgs false
set_option linter.unusedVariables false
namespace Go.Ev
open Go.Proofs

def wpOpsL (P : Program) (ops : Array Oper) (Q : Exit → Act → World → Prop) : List Nat → Act → World → Prop
  | [], a, w => Q .normal a w
  | i :: rest, a, w =>
    match ops[i]? with
    | none => wpOpsL P ops Q rest a w
    | some o => if Region.wanted o (yielded ops a.tmps) then o.wp P a w (wpOpsL P ops Q rest) Q else wpOpsL P ops Q rest (a.put o.dst undef) w

theorem wpOpsL_ok {P : Program} {ops : Array Oper} {Q : Exit → Act → World → Prop} : ∀ (l : List Nat) (a : Act) (w : World), wpOpsL P ops Q l a w → wpOps P ops Q l a w
  | [], _, _, h => h
  | i :: rest, a, w, h => by
    unfold wpOpsL at h
    unfold wpOps
    split at h
    · rename_i e; rw [e]; exact wpOpsL_ok rest a w h
    · rename_i o e
      rw [e]
      simp only
      split at h
      · rename_i hw; rw [if_pos hw]; exact .inl (Oper.wp_mono (fun a w => wpOpsL_ok rest a w) h)
      · rename_i hw; rw [if_neg hw]; exact wpOpsL_ok rest _ w h

theorem lookErr (b : Nat) (w : World) (u : Value) (hu : w.cell? ⟨b, 3, none⟩ = some u) (us : Array Value) (hs : us.size = 1) (h0 : us.getD 0 undef = .pointer (some ⟨b, 0, none⟩)) :
    Calls Tryz.prog 85 us w fun e w' => ∃ v, e = .returned v ∧ v = u ∧ w' = w := by
  obtain ⟨x, rfl⟩ : ∃ x, us = #[x] := by
    refine ⟨us.getD 0 undef, ?_⟩
    apply Array.ext (by simp [hs])
    intro i h1 h2
    have : i = 0 := by omega
    subst this
    simp [Array.getD, hs]
  simp at h0
  subst h0
  refine calls_of_wp Tryz.func85 rfl ?_
  apply wp_seq
  apply wp_region
  apply wpOpsL_ok
  simp [wpOpsL, go_sem, Exit.then]
  apply wp_seq
  apply wp_region
  apply wpOpsL_ok
  simp [wpOpsL, go_sem, Exit.then, hu]
  refine wp_ret ?_
  simp [bodyPost, results, Tryz.results85]

end Go.Ev

set_option linter.unusedSimpArgs false
set_option linter.unusedVariables false
namespace Go.Ev

theorem mapM_at' {α β : Type} {f : α → Option β} : ∀ {l : List α} {r : List β}, l.mapM f = some r → ∀ (i : Nat) (a : α), l[i]? = some a → ∃ b, r[i]? = some b ∧ f a = some b
  | [], _, _, i, a, ha => by simp at ha
  | x :: l, r, h, i, a, ha => by
    simp only [List.mapM_cons, Option.bind_eq_bind, Option.bind_eq_some_iff, Option.pure_def, Option.some.injEq] at h
    obtain ⟨b, hb, r', hr', rfl⟩ := h
    cases i with
    | zero => simp only [List.getElem?_cons_zero, Option.some.injEq] at ha; subst ha; exact ⟨b, rfl, hb⟩
    | succ i => exact mapM_at' hr' i a (by simpa using ha)

theorem mapM_len {α β : Type} {f : α → Option β} : ∀ {l : List α} {r : List β}, l.mapM f = some r → r.length = l.length
  | [], r, h => by simp at h; subst h; rfl
  | x :: l, r, h => by
    simp only [List.mapM_cons, Option.bind_eq_bind, Option.bind_eq_some_iff, Option.pure_def, Option.some.injEq] at h
    obtain ⟨b, hb, r', hr', rfl⟩ := h
    simp [mapM_len hr']

def litV : Lit → Value
  | .bool b => .bool b
  | .int k n => .int k n
  | .float k b => .float k b
  | .string s => .string ⟨s.toArray⟩
  | .nil => .nilIface

def litS : Lit → SV
  | .bool b => .bool b
  | .int k n => .int k n
  | .float k b => .flt k b
  | .string s => .str s
  | .nil => .nilI

theorem litS_one (l : Lit) : (litS l).one = true := by cases l <;> rfl
theorem litS_cells (l : Lit) : (litS l).cells = [litS l] := by cases l <;> rfl
theorem litS_rep (F : Frz) (l : Lit) : RepS F (litS l) (litV l) := by cases l <;> constructor

theorem lit_cells {H : Type} {enc : TypeId × Value → H} {P : Program} {w : World} {base : Nat} {sp : Nat → Bool} {held : Bool} {fuel : Nat} {t : TypeId} {cs : List Value} {l : Lit} {p : List MemPlace}
    (h : DataW.trod enc P w base sp held fuel t cs = some (.lit l, p)) : cs = [litV l] := by
  cases fuel with
  | zero => simp [DataW.trod] at h
  | succ m =>
    unfold DataW.trod at h
    split at h
    all_goals first
      | (simp at h; done)
      | (simp only [Option.some.injEq, Prod.mk.injEq, DataW.lit.injEq] at h; obtain ⟨rfl, _⟩ := h; rfl)
      | (simp only [Option.map_eq_some_iff, Prod.mk.injEq] at h; obtain ⟨_, _, h, _⟩ := h; cases h)
      | skip
    all_goals (split at h <;> try (simp at h; done))
    all_goals first
      | (rename_i hh; simp only [Option.some.injEq, Prod.mk.injEq, DataW.lit.injEq] at h; obtain ⟨rfl, _⟩ := h; obtain ⟨rfl, _⟩ := hh; rfl)
      | (simp only [Option.some.injEq, Prod.mk.injEq, DataW.lit.injEq] at h; obtain ⟨rfl, _⟩ := h; rfl)
      | (simp only [Option.map_eq_some_iff, Prod.mk.injEq] at h; obtain ⟨_, _, h, _⟩ := h; cases h)
      | (simp only [Option.bind_eq_some_iff, Option.map_eq_some_iff, Prod.mk.injEq] at h; obtain ⟨_, _, _, _, h, _⟩ := h; cases h)
      | skip
    all_goals (split at h <;> try (simp at h; done))
    all_goals (simp only [Option.bind_eq_some_iff] at h; obtain ⟨_, _, h⟩ := h; split at h <;> simp at h)

/-- The cells of a row of plain values. -/
theorem ref_of_lits {F : Frz} {g : Nat} {ls : List Lit} {cs : List Value} (hc : cs = ls.map litV) (hF : ∀ (j : Nat) (v : Value), cs[j]? = some v → F g j v) : RepS F (.ref (ls.map litS)) (.pointer (some ⟨g, 0, none⟩)) := by
  subst hc
  refine .ref _ _ _ (fun j => ((ls.map litV)[j]?).getD undef) (fun j hj => ?_) (fun j x hx => ?_) (fun j x hx => ?_)
  · simp only [List.length_map] at hj
    rw [Nat.zero_add]
    exact hF j _ (by simp [hj])
  · rw [List.getElem?_map] at hx
    obtain ⟨l, _, rfl⟩ := Option.map_eq_some_iff.1 hx
    exact litS_one l
  · rw [List.getElem?_map] at hx
    obtain ⟨l, hl, rfl⟩ := Option.map_eq_some_iff.1 hx
    simp only [List.getElem?_map, hl, Option.map_some, Option.getD_some]
    exact litS_rep F l

theorem lits_of_array {H : Type} {enc : TypeId × Value → H} {P : Program} {w : World} {base : Nat} {sp : Nat → Bool} {held : Bool} {fuel : Nat} {t e : TypeId} {n : Nat} {cs : List Value} {ls : List Lit} {p : List MemPlace}
    (ht : P.underlying t = some (.array n e)) (hce : P.cellsOf e = 1) (hct : P.cellsOf t = n)
    (h : DataW.trod enc P w base sp held fuel t cs = some (.agg (ls.map .lit), p)) : cs = ls.map litV := by
  obtain ⟨xs, m, rfl, hx, hl, hn, hel⟩ := DataW.trod_array ht h
  simp only [Prod.mk.injEq, DataW.agg.injEq] at hx
  rw [hct] at hl
  have hls : ls.length = n := by have := congrArg List.length hx.1; simp at this; omega
  apply List.ext_getElem?
  intro i
  by_cases hi : i < n
  · have hE := hel i hi
    rw [hce, Nat.mul_one, List.getElem?_eq_getElem (by omega : i < xs.length)] at hE
    have e1 : (xs.map (·.1))[i]? = some (.lit ls[i]) := by rw [← hx.1]; simp [hls, hi]
    rw [List.getElem?_map, List.getElem?_eq_getElem (by omega : i < xs.length)] at e1
    simp only [Option.map_some, Option.some.injEq] at e1
    have hE2 : DataW.trod enc P w base sp held m e ((cs.drop i).take 1) = some (.lit ls[i], xs[i].2) := by rw [hE]; rw [← e1]
    have hc := lit_cells hE2
    have h1 := congrArg (·[0]?) hc
    simp only [List.getElem?_take, List.getElem?_drop] at h1
    simp at h1
    simp [h1, hls, hi]
  · rw [List.getElem?_eq_none (by omega), List.getElem?_eq_none (by simp; omega)]

theorem lits_of_struct {H : Type} {enc : TypeId × Value → H} {P : Program} {w : World} {base : Nat} {sp : Nat → Bool} {held : Bool} {fuel : Nat} {t : TypeId} {fs : Array Field} {cs : List Value} {ls : List Lit} {p : List MemPlace}
    (ht : P.underlying t = some (.struct fs)) (hf : ∀ (i : Nat) (f : Field), fs[i]? = some f → f.offset = i ∧ P.cellsOf f.type = 1) (hct : P.cellsOf t = fs.size)
    (h : DataW.trod enc P w base sp held fuel t cs = some (.agg (ls.map .lit), p)) : cs = ls.map litV := by
  cases fuel with
  | zero => simp [DataW.trod] at h
  | succ m =>
    simp only [DataW.trod, ht] at h
    split at h
    · rename_i hl
      obtain ⟨xs, hm, hx⟩ := Option.map_eq_some_iff.1 h
      simp only [Prod.mk.injEq, DataW.agg.injEq] at hx
      have hxl : xs.length = fs.size := by simpa using mapM_len hm
      have hls : ls.length = fs.size := by have := congrArg List.length hx.1; simp at this; omega
      rw [hct] at hl
      apply List.ext_getElem?
      intro i
      by_cases hi : i < fs.size
      · obtain ⟨b, hb, hfb⟩ := mapM_at' hm i fs[i] (by simp [hi])
        obtain ⟨k1, k2⟩ := hf i fs[i] (by simp [hi])
        rw [k1, k2] at hfb
        have e1 : (xs.map (·.1))[i]? = some (.lit ls[i]) := by rw [hx.1]; simp [hls, hi]
        rw [List.getElem?_map, hb] at e1
        simp only [Option.map_some, Option.some.injEq] at e1
        have hE2 : DataW.trod enc P w base sp held m fs[i].type ((cs.drop i).take 1) = some (.lit ls[i], b.2) := by rw [hfb, ← e1]
        have hc := lit_cells hE2
        have h1 := congrArg (·[0]?) hc
        simp only [List.getElem?_take, List.getElem?_drop] at h1
        simp at h1
        simp [h1, hls, hi]
      · rw [List.getElem?_eq_none (by omega), List.getElem?_eq_none (by simp; omega)]
    · cases h

/-- A slice of plain values, in the variable's one cell. -/
theorem ref_of_slice {enc : TypeId × Value → Unit} {P : Program} {w : World} {base : Nat} {sp : Nat → Bool} {held : Bool} {fuel : Nat} {t e : TypeId} {cs : List Value} {ls : List Lit} {p : List MemPlace} {F : Frz} {g : Nat}
    (ht : P.underlying t = some (.slice e)) (hce : P.cellsOf e = 1) (hls : ls ≠ [])
    (h : DataW.trod enc P w base sp held fuel t cs = some (.slice (ls.map .lit) [], p)) (hw : ∀ b o v, w.cell? ⟨b, o, none⟩ = some v → F b o v) (hF : ∀ (j : Nat) (v : Value), cs[j]? = some v → F g j v) :
    RepS F (.ref [.sl (ls.map litS)]) (.pointer (some ⟨g, 0, none⟩)) := by
  obtain ⟨a, cap, hcs, hcap, hel⟩ := open_row ht hce h
  simp only [List.length_map] at hcs hcap
  have hE : ∀ (i : Nat) (l : Lit), ls[i]? = some l → w.cell? (a.add i) = some (litV l) := by
    intro i l hl
    obtain ⟨v, n, q, h1, h2⟩ := hel i (.lit l) (by simp [hl])
    have h3 := lit_cells h2
    simp only [List.cons.injEq, and_true] at h3
    rw [h1, h3]
  have hpos : 0 < ls.length := by cases ls with | nil => exact absurd rfl hls | cons _ _ => simp
  have hn : a.spot = none := by
    have := World.cell?_spot (hE 0 ls[0] (by simp [hpos]))
    simpa [Addr.add] using this
  obtain ⟨b, o, sp1⟩ := a
  simp only at hn
  subst hn
  have hadd : ∀ i, (Addr.add ⟨b, o, none⟩ i) = ⟨b, o + i, none⟩ := by intro i; unfold Addr.add; split <;> simp_all
  refine .ref _ _ _ (fun j => (cs[j]?).getD undef) (fun j hj => ?_) (fun j x hx => ?_) (fun j x hx => ?_)
  · simp only [List.length_singleton] at hj
    obtain rfl : j = 0 := by omega
    exact hF 0 _ (by simp [hcs])
  · cases j with
    | zero => simp at hx; subst hx; rfl
    | succ j => simp at hx
  · cases j with
    | succ j => simp at hx
    | zero =>
      simp at hx; subst hx
      simp only [hcs, List.getElem?_cons_zero, Option.getD_some]
      have hfl : flat (ls.map litS) = ls.map litS := by
        clear hcs hcap hel hE hpos h hls
        induction ls with
        | nil => rfl
        | cons l ls ih => simp only [List.map_cons, flat_cons, litS_cells, ih]; rfl
      rw [show ls.length = (ls.map litS).length from by simp]
      refine .sl (ls.map litS) b o cap 1 (fun j => ((ls.map litV)[j]?).getD undef) (by omega) (by simp [hls]) (by simpa using hcap) (fun x hx => ?_) (fun j hj => ?_) (fun j x hx => ?_) (fun j x hx => ?_)
      · obtain ⟨l, _, rfl⟩ := List.mem_map.1 hx
        rw [litS_cells]; rfl
      · simp only [List.length_map, Nat.mul_one] at hj
        have := hE j ls[j] (by simp [hj])
        rw [hadd] at this
        exact hw _ _ _ (by simp [hj, this])
      · rw [hfl, List.getElem?_map] at hx
        obtain ⟨l, _, rfl⟩ := Option.map_eq_some_iff.1 hx
        exact litS_one l
      · rw [hfl, List.getElem?_map] at hx
        obtain ⟨l, hl, rfl⟩ := Option.map_eq_some_iff.1 hx
        simp only [List.getElem?_map, hl, Option.map_some, Option.getD_some]
        exact litS_rep F l

end Go.Ev

set_option linter.unusedSimpArgs false
set_option linter.unusedVariables false
namespace Go.Ev
open Go.Proofs

def digitV (c : Nat) : Nat := if 48 ≤ c ∧ c ≤ 57 then c - 48 else if 97 ≤ c ∧ c ≤ 102 then c - 87 else if 65 ≤ c ∧ c ≤ 70 then c - 55 else 99

theorem digitV_le (c : Nat) : digitV c ≤ 99 := by unfold digitV; (repeat' split) <;> omega

theorem ev134 (E : Env) (h : E.code 125 = some c134) (n : Nat) (c : Nat) (hc : c < 256) : evP E n 125 [.int .u8 c] = some (.sv (.int .u64 (digitV c))) := by
  unfold evP
  simp only [h]
  have fin : ∀ x : Int, x = (digitV c : Int) → (some (AV.sv (.int .u64 x))) = some (.sv (.int .u64 (digitV c))) := fun x hx => by rw [hx]
  by_cases h1 : (48 : Int) ≤ (c : Int) <;> by_cases h2 : (c : Int) ≤ 57 <;> by_cases h3 : (97 : Int) ≤ (c : Int) <;> by_cases h4 : (c : Int) ≤ 102 <;> by_cases h5 : (65 : Int) ≤ (c : Int) <;> by_cases h6 : (c : Int) ≤ 70 <;> first
    | (exfalso; omega)
    | (simp [c134, h1, h2, h3, h4, h5, h6]
       try simp only [IntKind.wrap_u64, IntKind.wrap_u8]
       unfold digitV
       (repeat' split) <;> omega)

/-- What Number reads: none where it refuses. -/
def numV (base : Nat) : Nat → List UInt8 → Option Nat
  | n, [] => some n
  | n, c :: cs => if digitV c.toNat ≥ base ∨ n > (18446744073709551615 - digitV c.toNat) / base then none else numV base (n * base + digitV c.toNat) cs

theorem numV_lt {base : Nat} (hb : 0 < base) : ∀ (cs : List UInt8) (n m : Nat), n < 18446744073709551616 → numV base n cs = some m → m < 18446744073709551616
  | [], n, m, hn, h => by simp only [numV, Option.some.injEq] at h; omega
  | c :: cs, n, m, hn, h => by
    simp only [numV] at h
    split at h
    · simp at h
    · rename_i hc
      refine numV_lt hb cs _ m ?_ h
      have h2 : n ≤ (18446744073709551615 - digitV c.toNat) / base := by omega
      have h3 : n * base ≤ 18446744073709551615 - digitV c.toNat := (Nat.le_div_iff_mul_le hb).1 h2
      have := digitV_le c.toNat
      omega

open Classical in
/-- An answer under a condition; nothing evaluates the condition. -/
noncomputable def onlyIf (p : Prop) (x : Option AV) : Option AV := if p then x else none

theorem onlyIf_pos {p : Prop} {x : Option AV} (h : p) : onlyIf p x = x := by unfold onlyIf; rw [if_pos h]
@[simp] theorem onlyIf_true {x : Option AV} : onlyIf True x = x := onlyIf_pos trivial
theorem onlyIf_some {p : Prop} {x : Option AV} {r : AV} (h : onlyIf p x = some r) : p ∧ x = some r := by
  unfold onlyIf at h
  split at h
  · exact ⟨by assumption, h⟩
  · simp at h

noncomputable def F134 : List SV → Option AV
  | [.int .u8 c] => onlyIf (0 ≤ c ∧ c < 256) (some (.sv (.int .u64 (digitV c.toNat))))
  | _ => none

theorem loop123 (E : Env) (cf : CallF) (hP : E.pure 125 = some F134) (s : List UInt8) (hs : s.length < 9223372036854775807) (m : Nat) :
    ∀ (rest pre : List UInt8) (n k : Nat), s = pre ++ rest → n < 18446744073709551616 → rest.length < k →
      rounds (evC E cf m b123_0) k { tm := [.sv (.str s), .sv (.int .u64 10), .sv .undef, .sv .undef, .sv .undef, .sv .undef, .sv (.int .u64 n), .sv .undef, .sv .undef, .sv .undef, .sv (.int .i64 s.length), .sv (.int .i64 pre.length)] ++ List.replicate 26 (.sv .undef), lz := none, bx := [], df := [] } =
        match numV 10 n rest with
        | some m => some (.exit 0, { tm := [.sv (.str s), .sv .undef, .sv .undef, .sv .undef, .sv .undef, .sv .undef, .sv (.int .u64 m)] ++ List.replicate 31 (.sv .undef), lz := none, bx := [], df := [] })
        | none => some (.ret, { tm := [.sv .undef, .sv .undef, .sv .undef, .sv .undef, .sv (.int .u64 0), .sv (.bool false)] ++ List.replicate 32 (.sv .undef), lz := none, bx := [], df := [] }) := by
  intro rest
  induction rest with
  | nil =>
    intro pre n k hsp hn hk
    obtain ⟨k, rfl⟩ : ∃ k', k = k' + 1 := ⟨k - 1, by omega⟩
    have hlt : ¬ (pre.length < s.length) := by rw [hsp]; simp
    simp [rounds, b123_0, List.replicate, hlt, numV]
  | cons c rest ih =>
    intro pre n k hsp hn hk
    obtain ⟨k, rfl⟩ : ∃ k', k = k' + 1 := ⟨k - 1, by omega⟩
    have hlt : pre.length < s.length := by rw [hsp]; simp
    have hc : ∀ h : pre.length < s.length, s[pre.length]'h = c := by subst hsp; simp
    have hc1 : (c.toNat : Int) < 256 := by have := c.toNat_lt; omega
    have hd := digitV_le c.toNat
    by_cases h1 : digitV c.toNat ≥ 10
    · have e1 : (10 : Int) ≤ (digitV c.toNat : Int) := by omega
      have hv : numV 10 n (c :: rest) = none := by simp [numV, h1]
      rw [hv]
      simp [rounds, b123_0, List.replicate, hlt, hc, hP, F134, hc1, e1]
    · have e1 : ¬ (10 : Int) ≤ (digitV c.toNat : Int) := by omega
      have hw : IntKind.u64.wrap (18446744073709551615 - (digitV c.toNat : Int)) = ((18446744073709551615 - digitV c.toNat : Nat) : Int) := by rw [IntKind.wrap_u64]; omega
      have hq : IntKind.u64.wrap (((18446744073709551615 - digitV c.toNat : Nat) : Int) / 10) = (((18446744073709551615 - digitV c.toNat) / 10 : Nat) : Int) := by rw [IntKind.wrap_u64]; omega
      by_cases h2 : n > (18446744073709551615 - digitV c.toNat) / 10
      · have e2 : (((18446744073709551615 - digitV c.toNat) / 10 : Nat) : Int) < (n : Int) := by omega
        have hv : numV 10 n (c :: rest) = none := by simp [numV, h2]
        rw [hv]
        simp [rounds, b123_0, List.replicate, hlt, hc, hP, F134, hc1, e1, hw, hq, e2, -Int.natCast_ediv]
      · have e2 : ¬ (((18446744073709551615 - digitV c.toNat) / 10 : Nat) : Int) < (n : Int) := by omega
        have hv : numV 10 n (c :: rest) = numV 10 (n * 10 + digitV c.toNat) rest := by simp [numV, h1, h2]
        have hb : n * 10 + digitV c.toNat < 18446744073709551616 := by omega
        have hw1 : IntKind.u64.wrap (IntKind.u64.wrap ((n : Int) * 10) + (digitV c.toNat : Int)) = ((n * 10 + digitV c.toNat : Nat) : Int) := by rw [IntKind.wrap_u64, IntKind.wrap_u64]; omega
        have hw2 : IntKind.i64.wrap ((pre.length : Int) + 1) = ((pre ++ [c]).length : Int) := by rw [IntKind.wrap_i64]; simp; omega
        have := ih (pre ++ [c]) (n * 10 + digitV c.toNat) k (by rw [hsp]; simp) hb (by simp at hk; omega)
        rw [hv, ← this]
        simp [rounds, b123_0, List.replicate, hlt, hc, hP, F134, hc1, e1, hw, hq, e2, hw1, hw2, -Int.natCast_ediv]

end Go.Ev

set_option linter.unusedSimpArgs false
set_option linter.unusedVariables false
namespace Go.Ev
open Go.Proofs

theorem ev123 (E : Env) (h : E.code 96 = some c123) (hP : E.pure 125 = some F134) (s : List UInt8) (hs : s.length < 9223372036854775807) (n : Nat) (hn : s.length < n) :
    evP E n 96 [.str s, .int .u64 10] = some (.sv (.tup (match numV 10 0 s with | some m => [.int .u64 m, .bool (!(s == []))] | none => [.int .u64 0, .bool false]))) := by
  unfold evP
  simp only [h]
  have hl := loop123 E (evF E n) hP s hs n s [] 0 n rfl (by omega) hn
  simp [List.replicate] at hl
  cases hv : numV 10 0 s with
  | none => simp [hv] at hl; simp [c123, List.replicate, hl]
  | some m => simp [hv] at hl; simp [c123, List.replicate, hl]

noncomputable def F123 : List SV → Option AV
  | [.str s, .int .u64 b] => onlyIf (s.length < 9223372036854775807 ∧ b = 10) (some (.sv (.tup (match numV 10 0 s with | some m => [.int .u64 m, .bool (!(s == []))] | none => [.int .u64 0, .bool false]))))
  | _ => none

theorem ev81 (E : Env) (h : E.code 45 = some c81) (hP : E.pure 96 = some F123) (s : List UInt8) (hs : s.length < 9223372036854775807) (n : Nat) :
    evP E n 45 [.str s] = some (.sv (.tup (match numV 10 0 s with | some m => [.int .u64 m, .bool (!(s == []))] | none => [.int .u64 0, .bool false]))) := by
  unfold evP
  simp only [h]
  cases hv : numV 10 0 s with
  | none => simp [c81, List.replicate, hP, F123, hs, hv]
  | some m => simp [c81, List.replicate, hP, F123, hs, hv]

noncomputable def F81 : List SV → Option AV
  | [.str s] => onlyIf (s.length < 9223372036854775807) (some (.sv (.tup (match numV 10 0 s with | some m => [.int .u64 m, .bool (!(s == []))] | none => [.int .u64 0, .bool false]))))
  | _ => none

end Go.Ev

set_option linter.unusedSimpArgs false
set_option linter.unusedVariables false
namespace Go.Ev
open Go.Proofs

def decF : Nat → Nat → List UInt8
  | 0, _ => []
  | f + 1, n => if n < 10 then [UInt8.ofNat (48 + n)] else decF f (n / 10) ++ [UInt8.ofNat (48 + n % 10)]

/-- A number's decimal digits. -/
def decS (n : Nat) : List UInt8 := decF (n + 1) n

theorem decF_more : ∀ (f g n : Nat), n < f → n < g → decF f n = decF g n
  | 0, _, _, h, _ => by omega
  | _ + 1, 0, _, _, h => by omega
  | f + 1, g + 1, n, h1, h2 => by
    simp only [decF]
    split
    · rfl
    · rw [decF_more f g (n / 10) (by omega) (by omega)]

theorem decS_small {n : Nat} (h : n < 10) : decS n = [UInt8.ofNat (48 + n)] := by simp [decS, decF, h]

theorem decS_step {n : Nat} (h : ¬ n < 10) : decS n = decS (n / 10) ++ [UInt8.ofNat (48 + n % 10)] := by
  unfold decS
  rw [decF, if_neg h, decF_more n (n / 10 + 1) (n / 10) (by omega) (by omega)]

theorem decS_length (n : Nat) : ∀ k, n < 10 ^ (k + 1) → (decS n).length ≤ k + 1 := by
  intro k
  induction k generalizing n with
  | zero => intro h; simp at h; rw [decS_small h]; simp
  | succ k ih =>
    intro h
    by_cases hn : n < 10
    · rw [decS_small hn]; simp
    · rw [decS_step hn]
      have := ih (n / 10) (by rw [Nat.pow_succ] at h; omega)
      simp; omega

theorem decS_len20 {n : Nat} (h : n < 18446744073709551616) : (decS n).length ≤ 20 := decS_length n 19 (by omega)

noncomputable def F97 : List SV → Option AV
  | [.int .u64 n, .int .u64 b] => onlyIf (0 ≤ n ∧ n < 18446744073709551616 ∧ b = 10) (some (.sv (.str (decS n.toNat))))
  | _ => none

def size97 : List SV → Nat
  | .int .u64 n :: _ => n.toNat
  | _ => 0

theorem ev97 (E : Env) (h : E.code 121 = some c97) (n k : Nat) (hk : k < 18446744073709551616) :
    evP (E.add 121 (fun us => if size97 us < k then F97 us else none)) n 121 [.int .u64 k, .int .u64 10] = some (.sv (.str (decS k))) := by
  unfold evP
  have hc : (E.add 121 (fun us => if size97 us < k then F97 us else none)).code 121 = some c97 := h
  simp only [hc]
  have hm : Int.tmod (k : Int) 10 = ((k % 10 : Nat) : Int) := rfl
  have hq : IntKind.u64.wrap ((k : Int) / 10) = ((k / 10 : Nat) : Int) := by rw [IntKind.wrap_u64]; omega
  by_cases hlt : k < 10
  · have e1 : (k : Int) < 10 := by omega
    have e2 : k % 10 = k := by omega
    rw [decS_small hlt]
    have : k = 0 ∨ k = 1 ∨ k = 2 ∨ k = 3 ∨ k = 4 ∨ k = 5 ∨ k = 6 ∨ k = 7 ∨ k = 8 ∨ k = 9 := by omega
    rcases this with rfl | rfl | rfl | rfl | rfl | rfl | rfl | rfl | rfl | rfl <;> simp [c97, svBytes, List.replicate]
  · have e1 : ¬ (k : Int) < 10 := by omega
    rw [decS_step hlt]
    have hlen := decS_len20 (n := k / 10) (by omega)
    have hs : k / 10 < k := by omega
    have hb : ((k / 10 : Nat) : Int) < 18446744073709551616 := by omega
    have hb2 : (decS (k / 10)).length + 1 < 4611686018427387904 := by omega
    have : k % 10 = 0 ∨ k % 10 = 1 ∨ k % 10 = 2 ∨ k % 10 = 3 ∨ k % 10 = 4 ∨ k % 10 = 5 ∨ k % 10 = 6 ∨ k % 10 = 7 ∨ k % 10 = 8 ∨ k % 10 = 9 := by omega
    rcases this with hr | hr | hr | hr | hr | hr | hr | hr | hr | hr
    · have hm2 : (k : Int) % 10 = 0 := by omega
      simp [c97, svBytes, List.replicate, hm, hm2, hr, e1, hq, F97, size97, hs, hb, hb2, -Int.natCast_ediv]
    · have hm2 : (k : Int) % 10 = 1 := by omega
      simp [c97, svBytes, List.replicate, hm, hm2, hr, e1, hq, F97, size97, hs, hb, hb2, -Int.natCast_ediv]
    · have hm2 : (k : Int) % 10 = 2 := by omega
      simp [c97, svBytes, List.replicate, hm, hm2, hr, e1, hq, F97, size97, hs, hb, hb2, -Int.natCast_ediv]
    · have hm2 : (k : Int) % 10 = 3 := by omega
      simp [c97, svBytes, List.replicate, hm, hm2, hr, e1, hq, F97, size97, hs, hb, hb2, -Int.natCast_ediv]
    · have hm2 : (k : Int) % 10 = 4 := by omega
      simp [c97, svBytes, List.replicate, hm, hm2, hr, e1, hq, F97, size97, hs, hb, hb2, -Int.natCast_ediv]
    · have hm2 : (k : Int) % 10 = 5 := by omega
      simp [c97, svBytes, List.replicate, hm, hm2, hr, e1, hq, F97, size97, hs, hb, hb2, -Int.natCast_ediv]
    · have hm2 : (k : Int) % 10 = 6 := by omega
      simp [c97, svBytes, List.replicate, hm, hm2, hr, e1, hq, F97, size97, hs, hb, hb2, -Int.natCast_ediv]
    · have hm2 : (k : Int) % 10 = 7 := by omega
      simp [c97, svBytes, List.replicate, hm, hm2, hr, e1, hq, F97, size97, hs, hb, hb2, -Int.natCast_ediv]
    · have hm2 : (k : Int) % 10 = 8 := by omega
      simp [c97, svBytes, List.replicate, hm, hm2, hr, e1, hq, F97, size97, hs, hb, hb2, -Int.natCast_ediv]
    · have hm2 : (k : Int) % 10 = 9 := by omega
      simp [c97, svBytes, List.replicate, hm, hm2, hr, e1, hq, F97, size97, hs, hb, hb2, -Int.natCast_ediv]

theorem ev45 (E : Env) (h : E.code 72 = some c45) (hP : E.pure 121 = some F97) (n k : Nat) (hk : k < 18446744073709551616) : evP E n 72 [.int .u64 k] = some (.sv (.str (decS k))) := by
  unfold evP
  simp only [h]
  have hb : (k : Int) < 18446744073709551616 := by omega
  simp [c45, List.replicate, hP, F97, hb]

noncomputable def F45 : List SV → Option AV
  | [.int .u64 n] => onlyIf (0 ≤ n ∧ n < 18446744073709551616) (some (.sv (.str (decS n.toNat))))
  | _ => none

end Go.Ev

set_option linter.unusedSimpArgs false
set_option linter.unusedVariables false
namespace Go.Ev
open Go.Proofs

def wordC (c : UInt8) : Bool := decide (32 < c.toNat) && decide (c.toNat ≤ 126)

def plainC (c : UInt8) : Bool := decide (c.toNat ≤ 126) && (decide (32 ≤ c.toNat) || c.toNat == 10 || c.toNat == 9)

theorem loop78 (E : Env) (cf : CallF) (s : List UInt8) (hs : s.length < 9223372036854775807) (m : Nat) :
    ∀ (rest pre : List UInt8) (k : Nat), s = pre ++ rest → rest.length < k →
      rounds (evC E cf m b78_0) k { tm := [.sv (.str s), .sv .undef, .sv .undef, .sv .undef, .sv .undef, .sv .undef, .sv (.int .i64 s.length), .sv (.int .i64 pre.length)] ++ List.replicate 20 (.sv .undef), lz := none, bx := [], df := [] } =
        if rest.all plainC = true then some (.exit 0, { tm := List.replicate 28 (.sv .undef), lz := none, bx := [], df := [] })
        else some (.ret, { tm := [.sv .undef, .sv .undef, .sv (.bool false)] ++ List.replicate 25 (.sv .undef), lz := none, bx := [], df := [] }) := by
  intro rest
  induction rest with
  | nil =>
    intro pre k hsp hk
    obtain ⟨k, rfl⟩ : ∃ k', k = k' + 1 := ⟨k - 1, by omega⟩
    have hlt : ¬ (pre.length < s.length) := by rw [hsp]; simp
    simp [rounds, b78_0, List.replicate, hlt]
  | cons c rest ih =>
    intro pre k hsp hk
    obtain ⟨k, rfl⟩ : ∃ k', k = k' + 1 := ⟨k - 1, by omega⟩
    have hlt : pre.length < s.length := by rw [hsp]; simp
    have hc : ∀ h : pre.length < s.length, s[pre.length]'h = c := by subst hsp; simp
    have hw2 : IntKind.i64.wrap ((pre.length : Int) + 1) = ((pre ++ [c]).length : Int) := by rw [IntKind.wrap_i64]; simp; omega
    have := ih (pre ++ [c]) k (by rw [hsp]; simp) (by simp at hk; omega)
    by_cases h1 : (126 : Int) < (c.toNat : Int)
    · have e : plainC c = false := by simp [plainC]; omega
      simp [rounds, b78_0, List.replicate, hlt, hc, h1, e]
    · by_cases h2 : (c.toNat : Int) < 32
      · by_cases h3 : (c.toNat : Int) = 10
        · have e : plainC c = true := by simp [plainC]; omega
          simp only [List.all_cons, e, Bool.true_and]
          rw [← this]
          simp [rounds, b78_0, List.replicate, hlt, hc, h3, e, hw2]
        · by_cases h4 : (c.toNat : Int) = 9
          · have e : plainC c = true := by simp [plainC]; omega
            simp only [List.all_cons, e, Bool.true_and]
            rw [← this]
            simp [rounds, b78_0, List.replicate, hlt, hc, h4, e, hw2]
          · have e : plainC c = false := by simp [plainC]; omega
            have g3 : ((c.toNat : Int) != 10) = true := by simpa using h3
            have g4 : ((c.toNat : Int) != 9) = true := by simpa using h4
            simp [rounds, b78_0, List.replicate, hlt, hc, h1, h2, g3, g4, e]
      · have e : plainC c = true := by simp [plainC]; omega
        simp only [List.all_cons, e, Bool.true_and]
        rw [← this]
        simp [rounds, b78_0, List.replicate, hlt, hc, h1, h2, e, hw2]

theorem ev78 (E : Env) (h : E.code 93 = some c78) (s : List UInt8) (hs : s.length < 9223372036854775807) (n : Nat) (hn : s.length < n) :
    evP E n 93 [.str s] = some (.sv (.bool (s.all plainC))) := by
  unfold evP
  simp only [h]
  have hl := loop78 E (evF E n) s hs n s [] n rfl hn
  simp only [List.replicate, List.cons_append, List.nil_append, List.length_nil, Int.ofNat_zero, Int.natCast_zero] at hl
  cases hv : s.all plainC with
  | true => simp only [hv, if_true] at hl; simp [c78, List.replicate, hl]
  | false => simp only [hv, Bool.false_eq_true, if_false] at hl; simp [c78, List.replicate, hl]

noncomputable def F78 : List SV → Option AV
  | [.str s] => onlyIf (s.length < 9223372036854775807) (some (.sv (.bool (s.all plainC))))
  | _ => none

theorem ev55 (E : Env) (h : E.code 66 = some c55) (s : List UInt8) (ns ss : List SV) (a b : Nat) (n : Nat) :
    evP E n 66 [.agg [.str s, .sl ns, .sl ss], .int .i64 a, .int .i64 b] = some (.sv (.bool (decide (ns.length = a) && decide (ss.length = b)))) := by
  unfold evP
  simp only [h]
  have hb : ((ss.length : Int) == (b : Int)) = decide (ss.length = b) := by rw [Bool.eq_iff_iff]; simp; omega
  by_cases h1 : ns.length = a
  · subst h1
    simp [c55, List.replicate, hb]
  · have e : ((ns.length : Int) == (a : Int)) = false := by rw [Bool.eq_false_iff]; simp; omega
    simp [c55, List.replicate, e, h1]

def F55 : List SV → Option AV
  | [.agg [.str s, .sl ns, .sl ss], .int .i64 (.ofNat a), .int .i64 (.ofNat b)] => some (.sv (.bool (decide (ns.length = a) && decide (ss.length = b))))
  | _ => none

end Go.Ev

set_option linter.unusedSimpArgs false
set_option linter.unusedVariables false
namespace Go.Ev
open Go.Proofs

def u64s (ns : List Nat) : List SV := ns.map fun (n : Nat) => .int .u64 (n : Int)
def strs (l : List (List UInt8)) : List SV := l.map .str

theorem u64s_length (ns : List Nat) : (u64s ns).length = ns.length := by simp [u64s]

/-- Texts with another one between. -/
def joinS (by_ : List UInt8) : List (List UInt8) → List UInt8
  | [] => []
  | x :: xs => x ++ (xs.map fun y => by_ ++ y).flatten

theorem loop122 (E : Env) (cf : CallF) (b : List UInt8) (xs : List SV) (hs : xs.length < 9223372036854775807) (m : Nat) :
    ∀ (rest : List (List UInt8)) (pre : List SV) (acc : List UInt8) (k : Nat), xs = pre ++ strs rest → acc.length + (rest.map fun y => b ++ y).flatten.length < 4611686018427387904 → 0 < pre.length → rest.length < k →
      rounds (evC E cf m b122_0) k { tm := [.sv .undef, .sv (.str b), .sv .undef, .sv .undef, .sv .undef, .sv (.str acc), .sv .undef, .sv .undef, .sv (.sl xs), .sv (.int .i64 xs.length), .sv (.int .i64 pre.length)] ++ List.replicate 14 (.sv .undef), lz := none, bx := [], df := [] } =
        some (.exit 0, { tm := [.sv .undef, .sv .undef, .sv .undef, .sv .undef, .sv .undef, .sv (.str (acc ++ (rest.map fun y => b ++ y).flatten))] ++ List.replicate 19 (.sv .undef), lz := none, bx := [], df := [] }) := by
  intro rest
  induction rest with
  | nil =>
    intro pre acc k hsp hb hp hk
    obtain ⟨k, rfl⟩ : ∃ k', k = k' + 1 := ⟨k - 1, by omega⟩
    have hlt : ¬ (pre.length < xs.length) := by rw [hsp]; simp [strs]
    simp [rounds, b122_0, List.replicate, hlt]
  | cons c rest ih =>
    intro pre acc k hsp hb hp hk
    obtain ⟨k, rfl⟩ : ∃ k', k = k' + 1 := ⟨k - 1, by omega⟩
    have hlt : pre.length < xs.length := by rw [hsp]; simp [strs]
    have hc : ∀ h : pre.length < xs.length, xs[pre.length]'h = .str c := by subst hsp; simp [strs]
    have hw2 : IntKind.i64.wrap ((pre.length : Int) + 1) = ((pre ++ [SV.str c]).length : Int) := by rw [IntKind.wrap_i64]; simp; omega
    simp only [List.map_cons, List.flatten_cons, List.length_append] at hb
    have := ih (pre ++ [.str c]) (acc ++ b ++ c) k (by rw [hsp]; simp [strs]) (by simp only [List.length_append]; omega) (by simp) (by simp at hk; omega)
    have hp1 : (0 : Int) < (pre.length : Int) := by omega
    have hb1 : acc.length + b.length < 4611686018427387904 := by omega
    have hb2 : acc.length + b.length + c.length < 4611686018427387904 := by omega
    simp only [List.map_cons, List.flatten_cons]
    rw [show acc ++ (b ++ c ++ (rest.map fun y => b ++ y).flatten) = acc ++ b ++ c ++ (rest.map fun y => b ++ y).flatten from by simp]
    rw [← this]
    simp [rounds, b122_0, List.replicate, hlt, hc, hw2, hp1, hp, hb1, hb2, ← Nat.add_assoc]

end Go.Ev

set_option linter.unusedSimpArgs false
set_option linter.unusedVariables false
namespace Go.Ev
open Go.Proofs

theorem strs_length (l : List (List UInt8)) : (strs l).length = l.length := by simp [strs]

theorem first122 (E : Env) (cf : CallF) (b c : List UInt8) (rest : List SV) (m k : Nat) (hc : c.length < 4611686018427387904) :
    rounds (evC E cf m b122_0) (k + 1) { tm := [.sv .undef, .sv (.str b), .sv .undef, .sv .undef, .sv .undef, .sv (.str []), .sv .undef, .sv .undef, .sv (.sl (.str c :: rest)), .sv (.int .i64 ((rest.length : Int) + 1)), .sv (.int .i64 0)] ++ List.replicate 14 (.sv .undef), lz := none, bx := [], df := [] } =
    rounds (evC E cf m b122_0) k { tm := [.sv .undef, .sv (.str b), .sv .undef, .sv .undef, .sv .undef, .sv (.str c), .sv .undef, .sv .undef, .sv (.sl (.str c :: rest)), .sv (.int .i64 ((rest.length : Int) + 1)), .sv (.int .i64 1)] ++ List.replicate 14 (.sv .undef), lz := none, bx := [], df := [] } := by
  have h0 : (0 : Int) < (rest.length : Int) + 1 := by omega
  have h1 : (0 : Int) ≤ (rest.length : Int) + 1 := by omega
  have hw : IntKind.i64.wrap 1 = 1 := by rw [IntKind.wrap_i64]; omega
  refine rounds_step ?_
  simp [b122_0, List.replicate, h0, h1, hc, hw]

theorem ev122 (E : Env) (h : E.code 60 = some c122) (b : List UInt8) (l : List (List UInt8)) (hs : l.length < 9223372036854775807) (hb : (joinS b l).length < 4611686018427387904) (n : Nat) (hn : l.length + 1 < n) :
    evP E n 60 [.sl (strs l), .str b] = some (.sv (.str (joinS b l))) := by
  unfold evP
  simp only [h]
  cases l with
  | nil =>
    obtain ⟨n, rfl⟩ : ∃ n', n = n' + 1 := ⟨n - 1, by omega⟩
    simp [c122, List.replicate, strs, rounds, b122_0, joinS]
  | cons x xs =>
    simp only [joinS, List.length_append] at hb
    obtain ⟨n, rfl⟩ : ∃ n', n = n' + 1 := ⟨n - 1, by omega⟩
    have hl := loop122 E (evF E (n + 1)) b (strs (x :: xs)) (by rw [strs_length]; exact hs) (n + 1) xs [.str x] x n (by simp [strs]) hb (by simp) (by simp at hn; omega)
    have hf := first122 E (evF E (n + 1)) b x (strs xs) (n + 1) n (by omega)
    simp only [strs, List.map_cons, List.length_cons, List.length_nil, List.length_map, List.replicate, List.cons_append, List.nil_append, Nat.zero_add, Int.natCast_add, Int.natCast_one, Int.cast_ofNat_Int] at hl hf
    simp [c122, List.replicate, strs, hf, hl, joinS]

def unstr : SV → List UInt8
  | .str s => s
  | _ => []

theorem unstrs (t : List (List UInt8)) : (strs t).map unstr = t := by
  induction t with
  | nil => rfl
  | cons x t ih => simp only [strs, List.map_cons, unstr]; rw [show (t.map SV.str).map unstr = t from ih]

def unint : SV → Nat
  | .int _ n => n.toNat
  | _ => 0

theorem unu64s (t : List Nat) : (u64s t).map unint = t := by
  induction t with
  | nil => rfl
  | cons x t ih =>
    simp only [u64s, List.map_cons, unint, Int.toNat_natCast]
    rw [show (t.map fun (n : Nat) => SV.int .u64 (n : Int)).map unint = t from ih]

noncomputable def F122 : List SV → Option AV
  | [.sl l, .str b] => onlyIf (l = strs (l.map unstr) ∧ l.length < 9223372036854775807 ∧ (joinS b (l.map unstr)).length < 4611686018427387904) (some (.sv (.str (joinS b (l.map unstr)))))
  | _ => none

theorem F122_eq (t : List (List UInt8)) (b : List UInt8) (h1 : t.length < 9223372036854775807) (h2 : (joinS b t).length < 4611686018427387904) : F122 [.sl (strs t), .str b] = some (.sv (.str (joinS b t))) := by
  unfold F122
  simp only [unstrs]
  exact onlyIf_pos ⟨trivial, by rw [strs_length]; exact h1, h2⟩

/-- What is appended to: nil as long as nothing was. -/
def accA (e : Nat) : List SV → AV
  | [] => .sv .nilS
  | x :: xs => .own e (x :: xs)

theorem loop82 (E : Env) (cf : CallF) (hP : E.pure 72 = some F45) (b : List UInt8) (xs : List SV) (hs : xs.length < 1000000000000) (m : Nat) :
    ∀ (rest : List Nat) (pre acc : List SV) (k : Nat), xs = pre ++ u64s rest → (∀ n ∈ rest, n < 18446744073709551616) → acc.length = pre.length → uni 1 acc = true → rest.length < k →
      rounds (evC E cf m b82_0) k { tm := [.sv .undef, .sv (.str b), .sv .undef, .sv .undef, .sv .undef, accA 9 acc, .sv .undef, .sv .undef, .sv (.sl xs), .sv (.int .i64 xs.length), .sv (.int .i64 pre.length)] ++ List.replicate 12 (.sv .undef), lz := none, bx := [], df := [] } =
        some (.exit 0, { tm := [.sv .undef, .sv (.str b), .sv .undef, .sv .undef, .sv .undef, accA 9 (acc ++ strs (rest.map decS))] ++ List.replicate 17 (.sv .undef), lz := none, bx := [], df := [] }) := by
  intro rest
  induction rest with
  | nil =>
    intro pre acc k hsp _ _ _ hk
    obtain ⟨k, rfl⟩ : ∃ k', k = k' + 1 := ⟨k - 1, by omega⟩
    have hlt : ¬ (pre.length < xs.length) := by rw [hsp]; simp [u64s]
    simp [rounds, b82_0, List.replicate, hlt, strs]
  | cons c rest ih =>
    intro pre acc k hsp hr hal hu hk
    obtain ⟨k, rfl⟩ : ∃ k', k = k' + 1 := ⟨k - 1, by omega⟩
    have hlt : pre.length < xs.length := by rw [hsp]; simp [u64s]
    have hc : ∀ h : pre.length < xs.length, xs[pre.length]'h = .int .u64 (c : Int) := by subst hsp; simp [u64s]
    have hw2 : IntKind.i64.wrap ((pre.length : Int) + 1) = ((pre ++ [SV.int .u64 (c : Int)]).length : Int) := by rw [IntKind.wrap_i64]; simp; omega
    have hcb : (c : Int) < 18446744073709551616 := by have := hr c (by simp); omega
    have hu' : uni 1 (acc ++ [.str (decS c)]) = true := by simp only [uni, List.all_append, List.all_cons, List.all_nil, Bool.and_true]; simp only [uni] at hu; rw [hu]; rfl
    have := ih (pre ++ [.int .u64 (c : Int)]) (acc ++ [.str (decS c)]) k (by rw [hsp]; simp [u64s]) (fun n hn => hr n (by simp [hn])) (by simp [hal]) hu' (by simp at hk; omega)
    rw [show acc ++ strs (List.map decS (c :: rest)) = acc ++ [SV.str (decS c)] ++ strs (rest.map decS) from by simp [strs]]
    rw [← this]
    have hl1 : (acc.length + 1) * 16 ≤ 140737488355328 := by omega
    have hl2 : acc.length + 1 ≤ 140737488355328 := by omega
    cases acc with
    | nil => simp [rounds, b82_0, List.replicate, hlt, hc, hw2, hP, F45, hcb, accA]
    | cons y ys =>
      simp only [List.length_cons] at hl1 hl2
      simp [rounds, b82_0, List.replicate, hlt, hc, hw2, hP, F45, hcb, accA, hl1, hl2]

end Go.Ev

set_option linter.unusedSimpArgs false
set_option linter.unusedVariables false
namespace Go.Ev
open Go.Proofs

theorem ev82 (E : Env) (h : E.code 73 = some c82) (hP : E.pure 72 = some F45) (hP2 : E.pure 60 = some F122) (b : List UInt8) (ns : List Nat) (hs : ns.length < 1000000000000) (hr : ∀ n ∈ ns, n < 18446744073709551616) (hb : (joinS b (ns.map decS)).length < 4611686018427387904) (n : Nat) (hn : ns.length < n) :
    evP E n 73 [.sl (u64s ns), .str b] = some (.sv (.str (joinS b (ns.map decS)))) := by
  unfold evP
  simp only [h]
  have hl := loop82 E (evF E n) hP b (u64s ns) (by rw [u64s_length]; exact hs) n ns [] [] n rfl hr rfl rfl hn
  simp only [accA, List.replicate, List.cons_append, List.nil_append, List.length_nil, Int.ofNat_zero, Int.natCast_zero] at hl
  have hF := F122_eq (ns.map decS) b (by simp; omega) hb
  cases ns with
  | nil => simp [strs] at hl hF; simp [c82, List.replicate, hl, hP2, hF, accA, strs]
  | cons x xs => simp [strs] at hl hF; simp [c82, List.replicate, hl, hP2, hF, accA, strs]

noncomputable def F82 : List SV → Option AV
  | [.sl l, .str b] => onlyIf (l = u64s (l.map unint) ∧ l.length < 1000000000000 ∧ (∀ n ∈ l.map unint, n < 18446744073709551616) ∧ (joinS b ((l.map unint).map decS)).length < 4611686018427387904) (some (.sv (.str (joinS b ((l.map unint).map decS)))))
  | _ => none

theorem F82_eq (ns : List Nat) (b : List UInt8) (hs : ns.length < 1000000000000) (hr : ∀ n ∈ ns, n < 18446744073709551616) (hb : (joinS b (ns.map decS)).length < 4611686018427387904) : F82 [.sl (u64s ns), .str b] = some (.sv (.str (joinS b (ns.map decS)))) := by
  unfold F82
  simp only [unu64s]
  exact onlyIf_pos ⟨trivial, by rw [u64s_length]; exact hs, hr, hb⟩

/-- A decimal number as it is written. -/
def decV (s : List UInt8) : Option Nat := match numV 10 0 s with
  | some m => if s ≠ [] ∧ decS m = s then some m else none
  | none => none

def decsV : List (List UInt8) → Option (List Nat)
  | [] => some []
  | s :: l => match decV s with
    | some m => match decsV l with
      | some ms => some (m :: ms)
      | none => none
    | none => none

theorem loop77 (E : Env) (cf : CallF) (hP : E.pure 45 = some F81) (hP2 : E.pure 72 = some F45) (xs : List SV) (hs : xs.length < 1000000000000) (m : Nat) :
    ∀ (rest : List (List UInt8)) (pre acc : List SV) (k : Nat), xs = pre ++ strs rest → (∀ s ∈ rest, s.length < 9223372036854775807) → acc.length = pre.length → uni 1 acc = true → rest.length < k →
      rounds (evC E cf m b77_0) k { tm := [.sv .undef, .sv .undef, .sv .undef, .sv .undef, accA 39 acc, .sv .undef, .sv .undef, .sv .undef, .sv .undef, .sv (.sl xs), .sv (.int .i64 xs.length), .sv (.int .i64 pre.length)] ++ List.replicate 22 (.sv .undef), lz := none, bx := [], df := [] } =
        match decsV rest with
        | some ms => some (.exit 0, { tm := [.sv .undef, .sv .undef, .sv .undef, .sv .undef, accA 39 (acc ++ u64s ms)] ++ List.replicate 29 (.sv .undef), lz := none, bx := [], df := [] })
        | none => some (.ret, { tm := [.sv .undef, .sv .undef, .sv .nilS, .sv (.bool false)] ++ List.replicate 30 (.sv .undef), lz := none, bx := [], df := [] }) := by
  intro rest
  induction rest with
  | nil =>
    intro pre acc k hsp _ _ _ hk
    obtain ⟨k, rfl⟩ : ∃ k', k = k' + 1 := ⟨k - 1, by omega⟩
    have hlt : ¬ (pre.length < xs.length) := by rw [hsp]; simp [strs]
    simp [rounds, b77_0, List.replicate, hlt, decsV, u64s]
  | cons c rest ih =>
    intro pre acc k hsp hr hal hu hk
    obtain ⟨k, rfl⟩ : ∃ k', k = k' + 1 := ⟨k - 1, by omega⟩
    have hlt : pre.length < xs.length := by rw [hsp]; simp [strs]
    have hc : ∀ h : pre.length < xs.length, xs[pre.length]'h = .str c := by subst hsp; simp [strs]
    have hw2 : IntKind.i64.wrap ((pre.length : Int) + 1) = ((pre ++ [SV.str c]).length : Int) := by rw [IntKind.wrap_i64]; simp; omega
    have hcb : c.length < 9223372036854775807 := hr c (by simp)
    have hl1 : (acc.length + 1) * 8 ≤ 140737488355328 := by omega
    have hl2 : acc.length + 1 ≤ 140737488355328 := by omega
    cases hv : numV 10 0 c with
    | none =>
      have hd : decV c = none := by simp [decV, hv]
      simp [rounds, b77_0, List.replicate, hlt, hc, hP, F81, hcb, hv, hd, decsV]
    | some v =>
      have hvb : v < 18446744073709551616 := numV_lt (by omega) c 0 v (by omega) hv
      have hvb2 : (v : Int) < 18446744073709551616 := by omega
      by_cases hne : c = []
      · subst hne
        have hd : decV [] = none := by simp [decV, numV]
        simp only [decsV, hd]
        simp [rounds, b77_0, List.replicate, hlt, hc, hP, F81, hv]
      · have hce : (c == []) = false := by simpa using hne
        by_cases heq : decS v = c
        · have hd : decV c = some v := by simp [decV, hv, hne, heq]
          have hu' : uni 1 (acc ++ [.int .u64 (v : Int)]) = true := by simp only [uni, List.all_append, List.all_cons, List.all_nil, Bool.and_true]; simp only [uni] at hu; rw [hu]; rfl
          have := ih (pre ++ [.str c]) (acc ++ [.int .u64 (v : Int)]) k (by rw [hsp]; simp [strs]) (fun n hn => hr n (by simp [hn])) (by simp [hal]) hu' (by simp at hk; omega)
          have hR : decsV (c :: rest) = (match decsV rest with | some ms => some (v :: ms) | none => none) := by simp [decsV, hd]
          have key : rounds (evC E cf m b77_0) (k + 1) { tm := [.sv .undef, .sv .undef, .sv .undef, .sv .undef, accA 39 acc, .sv .undef, .sv .undef, .sv .undef, .sv .undef, .sv (.sl xs), .sv (.int .i64 xs.length), .sv (.int .i64 pre.length)] ++ List.replicate 22 (.sv .undef), lz := none, bx := [], df := [] } = rounds (evC E cf m b77_0) k { tm := [.sv .undef, .sv .undef, .sv .undef, .sv .undef, accA 39 (acc ++ [.int .u64 (v : Int)]), .sv .undef, .sv .undef, .sv .undef, .sv .undef, .sv (.sl xs), .sv (.int .i64 xs.length), .sv (.int .i64 (pre ++ [SV.str c]).length)] ++ List.replicate 22 (.sv .undef), lz := none, bx := [], df := [] } := by
            have hneq : (decS v != c) = false := by simp [heq]
            cases acc with
            | nil => simp [rounds, b77_0, List.replicate, hlt, hc, hw2, hP, F81, hcb, hv, hce, hP2, F45, hvb2, hneq, heq, accA]
            | cons y ys =>
              simp only [List.length_cons] at hl1 hl2
              simp [rounds, b77_0, List.replicate, hlt, hc, hw2, hP, F81, hcb, hv, hce, hP2, F45, hvb2, hneq, heq, accA, hl1, hl2]
          rw [key, this, hR]
          cases decsV rest with
          | none => rfl
          | some ms => simp [u64s]
        · have hd : decV c = none := by simp [decV, hv, heq]
          have hneq : (decS v != c) = true := by simpa using heq
          have hneq2 : (decS v == c) = false := by simpa using heq
          simp only [decsV, hd]
          simp [rounds, b77_0, List.replicate, hlt, hc, hP, F81, hcb, hv, hce, hP2, F45, hvb2, hneq, hneq2, heq]

end Go.Ev

set_option linter.unusedSimpArgs false
set_option linter.unusedVariables false
namespace Go.Ev
open Go.Proofs

theorem ev77 (E : Env) (h : E.code 92 = some c77) (hP : E.pure 45 = some F81) (hP2 : E.pure 72 = some F45) (l : List (List UInt8)) (hs : l.length < 1000000000000) (hr : ∀ s ∈ l, s.length < 9223372036854775807) (n : Nat) (hn : l.length < n) :
    evP E n 92 [.sl (strs l)] = some (.sv (.tup (match decsV l with | some ms => [.sl (u64s ms), .bool true] | none => [.sl [], .bool false]))) := by
  unfold evP
  simp only [h]
  have hl := loop77 E (evF E n) hP hP2 (strs l) (by rw [strs_length]; exact hs) n l [] [] n rfl hr rfl rfl hn
  simp only [accA, List.replicate, List.cons_append, List.nil_append, List.length_nil, Int.ofNat_zero, Int.natCast_zero] at hl
  cases hv : decsV l with
  | none => simp [hv] at hl; simp [c77, List.replicate, hl]
  | some ms =>
    cases ms with
    | nil => simp [hv, u64s] at hl; simp [c77, List.replicate, hl, accA, u64s]
    | cons x xs => simp [hv, u64s] at hl; simp [c77, List.replicate, hl, accA, u64s]

noncomputable def F77 : List SV → Option AV
  | [.sl l] => onlyIf (l = strs (l.map unstr) ∧ l.length < 1000000000000 ∧ ∀ s ∈ l.map unstr, s.length < 9223372036854775807) (some (.sv (.tup (match decsV (l.map unstr) with | some ms => [.sl (u64s ms), .bool true] | none => [.sl [], .bool false]))))
  | _ => none

theorem F77_eq (l : List (List UInt8)) (hs : l.length < 1000000000000) (hr : ∀ s ∈ l, s.length < 9223372036854775807) : F77 [.sl (strs l)] = some (.sv (.tup (match decsV l with | some ms => [.sl (u64s ms), .bool true] | none => [.sl [], .bool false]))) := by
  unfold F77
  simp only [unstrs]
  exact onlyIf_pos ⟨trivial, by rw [strs_length]; exact hs, hr⟩

def lineK (s : List UInt8) : Nat → List UInt8 → Nat × List SV → Nat × List SV
  | _, [], p => p
  | i, c :: cs, p => lineK s (i + 1) cs (if c.toNat = 10 then (i + 1, p.2 ++ [.str ((s.take i).drop p.1)]) else p)

theorem loop28 (E : Env) (cf : CallF) (s : List UInt8) (hs : s.length < 1000000000000) (m : Nat) :
    ∀ (rest pre : List UInt8) (from_ : Nat) (acc : List SV) (k : Nat), s = pre ++ rest → from_ ≤ pre.length → acc.length ≤ pre.length → uni 1 acc = true → rest.length < k →
      rounds (evC E cf m b28_0) k { tm := [.sv (.str s), .sv .undef, .sv .undef, accA 9 acc, .sv (.int .i64 from_), .sv .undef, .sv .undef, .sv (.int .i64 s.length), .sv (.int .i64 pre.length)] ++ List.replicate 27 (.sv .undef), lz := none, bx := [], df := [] } =
        some (.exit 0, { tm := [.sv (.str s), .sv .undef, .sv .undef, accA 9 (lineK s pre.length rest (from_, acc)).2, .sv (.int .i64 (lineK s pre.length rest (from_, acc)).1)] ++ List.replicate 31 (.sv .undef), lz := none, bx := [], df := [] }) := by
  intro rest
  induction rest with
  | nil =>
    intro pre from_ acc k hsp _ _ _ hk
    obtain ⟨k, rfl⟩ : ∃ k', k = k' + 1 := ⟨k - 1, by omega⟩
    have hlt : ¬ (pre.length < s.length) := by rw [hsp]; simp
    simp [rounds, b28_0, List.replicate, hlt, lineK]
  | cons c rest ih =>
    intro pre from_ acc k hsp hf ha hu hk
    obtain ⟨k, rfl⟩ : ∃ k', k = k' + 1 := ⟨k - 1, by omega⟩
    have hlt : pre.length < s.length := by rw [hsp]; simp
    have hle : pre.length ≤ s.length := by omega
    have hc : ∀ h : pre.length < s.length, s[pre.length]'h = c := by subst hsp; simp
    have hw2 : IntKind.i64.wrap ((pre.length : Int) + 1) = ((pre.length + 1 : Nat) : Int) := by rw [IntKind.wrap_i64]; omega
    have hl1 : (acc.length + 1) * 16 ≤ 140737488355328 := by omega
    have hl2 : acc.length + 1 ≤ 140737488355328 := by omega
    have hpl : (pre ++ [c]).length = pre.length + 1 := by simp
    simp only [lineK]
    by_cases h10 : c.toNat = 10
    · have hu' : uni 1 (acc ++ [.str ((s.take pre.length).drop from_)]) = true := by simp only [uni, List.all_append, List.all_cons, List.all_nil, Bool.and_true]; simp only [uni] at hu; rw [hu]; rfl
      have h10' : (c.toNat : Int) = 10 := by omega
      have := ih (pre ++ [c]) (pre.length + 1) (acc ++ [.str ((s.take pre.length).drop from_)]) k (by rw [hsp]; simp) (by simp) (by simp; omega) hu' (by simp at hk; omega)
      rw [hpl] at this
      rw [if_pos h10, ← this]
      cases acc with
      | nil => simp [rounds, b28_0, List.replicate, hlt, hle, hc, hw2, h10', hf, accA]
      | cons y ys =>
        simp only [List.length_cons] at hl1 hl2
        simp [rounds, b28_0, List.replicate, hlt, hle, hc, hw2, h10', hf, accA, hl1, hl2]
    · have h10' : ¬ (c.toNat : Int) = 10 := by omega
      have h10b : ((c.toNat : Int) == 10) = false := by simpa using h10'
      have := ih (pre ++ [c]) from_ acc k (by rw [hsp]; simp) (by simp; omega) (by simp; omega) hu (by simp at hk; omega)
      rw [hpl] at this
      rw [if_neg h10, ← this]
      simp [rounds, b28_0, List.replicate, hlt, hc, hw2, h10', h10b]

end Go.Ev

set_option linter.unusedSimpArgs false
set_option linter.unusedVariables false
namespace Go.Ev
open Go.Proofs

theorem lineK_inv (s : List UInt8) : ∀ (rest : List UInt8) (i from_ : Nat) (acc : List SV), i + rest.length = s.length → from_ ≤ i → acc.length ≤ i → acc = strs (acc.map unstr) → (∀ x ∈ acc.map unstr, x.length ≤ s.length) →
    (lineK s i rest (from_, acc)).1 ≤ s.length ∧ (lineK s i rest (from_, acc)).2.length ≤ s.length ∧ (lineK s i rest (from_, acc)).2 = strs ((lineK s i rest (from_, acc)).2.map unstr) ∧ ∀ x ∈ (lineK s i rest (from_, acc)).2.map unstr, x.length ≤ s.length
  | [], i, from_, acc, h1, h2, h3, h4, h5 => by
    simp only [List.length_nil] at h1
    simp only [lineK]
    exact ⟨by omega, by omega, h4, h5⟩
  | c :: rest, i, from_, acc, h1, h2, h3, h4, h5 => by
    simp only [List.length_cons] at h1
    simp only [lineK]
    split
    · refine lineK_inv s rest (i + 1) (i + 1) _ (by omega) (Nat.le_refl _) (by simp; omega) ?_ ?_
      · simp only [List.map_append, List.map_cons, List.map_nil, unstr, strs] at h4 ⊢
        rw [← h4]
      · intro x hx
        simp only [List.map_append, List.map_cons, List.map_nil, unstr, List.mem_append, List.mem_singleton] at hx
        rcases hx with hx | rfl
        · exact h5 x hx
        · simp; omega
    · exact lineK_inv s rest (i + 1) from_ acc (by omega) (by omega) (by omega) h4 h5

def linesV (s : List UInt8) : List SV :=
  if (lineK s 0 s (0, [])).1 < s.length then (lineK s 0 s (0, [])).2 ++ [.str (s.drop (lineK s 0 s (0, [])).1)] else (lineK s 0 s (0, [])).2

/-- A text's lines, as the reference finds them. -/
def linesL (s : List UInt8) : List (List UInt8) := (linesV s).map unstr

theorem linesV_shape (s : List UInt8) : linesV s = strs (linesL s) ∧ (linesL s).length ≤ s.length + 1 ∧ ∀ x ∈ linesL s, x.length ≤ s.length := by
  obtain ⟨h1, h2, h3, h4⟩ := lineK_inv s s 0 0 [] (by omega) (Nat.le_refl _) (Nat.le_refl _) rfl (by simp)
  unfold linesL linesV
  split
  · refine ⟨?_, by simp; omega, ?_⟩
    · simp only [List.map_append, List.map_cons, List.map_nil, unstr, strs] at h3 ⊢
      rw [← h3]
    · intro x hx
      simp only [List.map_append, List.map_cons, List.map_nil, unstr, List.mem_append, List.mem_singleton] at hx
      rcases hx with hx | rfl
      · exact h4 x hx
      · simp
  · exact ⟨h3, by simp; omega, h4⟩

theorem ev28 (E : Env) (h : E.code 59 = some c28) (s : List UInt8) (hs : s.length < 1000000000000) (n : Nat) (hn : s.length < n) :
    ∃ r, evP E n 59 [.str s] = some r ∧ r.elems = some (linesV s) := by
  unfold evP
  simp only [h]
  have hl := loop28 E (evF E n) s hs n s [] 0 [] n rfl (Nat.le_refl _) (Nat.le_refl _) rfl hn
  obtain ⟨h1, h2, h3, h4⟩ := lineK_inv s s 0 0 [] (by omega) (Nat.le_refl _) (Nat.le_refl _) rfl (by simp)
  unfold linesV
  generalize lineK s 0 s (0, []) = p at hl h1 h2 h3 h4 ⊢
  obtain ⟨from_, acc⟩ := p
  simp only at h1 h2 h3 h4 ⊢
  simp only [accA, List.replicate, List.cons_append, List.nil_append, List.length_nil, Int.ofNat_zero, Int.natCast_zero] at hl
  have hl1 : (acc.length + 1) * 16 ≤ 140737488355328 := by omega
  have hl2 : acc.length + 1 ≤ 140737488355328 := by omega
  by_cases hlt : from_ < s.length
  · rw [if_pos hlt]
    have hle : from_ ≤ s.length := by omega
    cases acc with
    | nil => simp [c28, List.replicate, hl, hlt, hle, accA]
    | cons y ys =>
      simp only [List.length_cons] at hl1 hl2
      simp [c28, List.replicate, hl, hlt, hle, accA, hl1, hl2]
  · rw [if_neg hlt]
    cases acc with
    | nil => simp [c28, List.replicate, hl, hlt, accA]
    | cons y ys => simp [c28, List.replicate, hl, hlt, accA]

noncomputable def F28 : List SV → Option AV
  | [.str s] => onlyIf (s.length < 1000000000000) (some (.sv (.sl (linesV s))))
  | _ => none

def blankC (c : UInt8) : Bool := c.toNat == 32 || c.toNat == 9

def fieldK (s : List UInt8) : Nat → List UInt8 → Option Nat × List SV → Option Nat × List SV
  | _, [], p => p
  | i, c :: cs, p => fieldK s (i + 1) cs (match blankC c, p.1 with
    | true, some f => (none, p.2 ++ [.str ((s.take i).drop f)])
    | false, none => (some i, p.2)
    | _, _ => p)

def fromI : Option Nat → Int
  | none => -1
  | some f => (f : Int)

set_option maxHeartbeats 4000000 in
theorem loop52 (E : Env) (cf : CallF) (s : List UInt8) (hs : s.length < 1000000000000) (m : Nat) :
    ∀ (rest pre : List UInt8) (from_ : Option Nat) (acc : List SV) (k : Nat), s = pre ++ rest → (∀ f, from_ = some f → f ≤ pre.length) → acc.length ≤ pre.length → rest.length < k →
      rounds (evC E cf m b52_0) k { tm := [.sv (.str s), .sv .undef, .sv .undef, accA 9 acc, .sv (.int .i64 (fromI from_)), .sv .undef, .sv .undef, .sv .undef, .sv (.int .i64 s.length), .sv (.int .i64 pre.length)] ++ List.replicate 43 (.sv .undef), lz := none, bx := [], df := [] } =
        some (.exit 0, { tm := [.sv (.str s), .sv .undef, .sv .undef, accA 9 (fieldK s pre.length rest (from_, acc)).2, .sv (.int .i64 (fromI (fieldK s pre.length rest (from_, acc)).1))] ++ List.replicate 48 (.sv .undef), lz := none, bx := [], df := [] }) := by
  intro rest
  induction rest with
  | nil =>
    intro pre from_ acc k hsp _ _ hk
    obtain ⟨k, rfl⟩ : ∃ k', k = k' + 1 := ⟨k - 1, by omega⟩
    have hlt : ¬ (pre.length < s.length) := by rw [hsp]; simp
    simp [rounds, b52_0, List.replicate, hlt, fieldK]
  | cons c rest ih =>
    intro pre from_ acc k hsp hf ha hk
    obtain ⟨k, rfl⟩ : ∃ k', k = k' + 1 := ⟨k - 1, by omega⟩
    have hlt : pre.length < s.length := by rw [hsp]; simp
    have hle : pre.length ≤ s.length := by omega
    have hc : ∀ h : pre.length < s.length, s[pre.length]'h = c := by subst hsp; simp
    have hw2 : IntKind.i64.wrap ((pre.length : Int) + 1) = ((pre.length + 1 : Nat) : Int) := by rw [IntKind.wrap_i64]; omega
    have hl1 : (acc.length + 1) * 16 ≤ 140737488355328 := by omega
    have hl2 : acc.length + 1 ≤ 140737488355328 := by omega
    have hpl : (pre ++ [c]).length = pre.length + 1 := by simp
    have ih' := fun fr ac hfr hac => ih (pre ++ [c]) fr ac k (by rw [hsp]; simp) hfr hac (by simp at hk; omega)
    rw [hpl] at ih'
    simp only [fieldK]
    by_cases h32 : (c.toNat : Int) = 32
    · have hb : blankC c = true := by simp [blankC]; omega
      cases from_ with
      | none =>
        simp only [hb]
        rw [← ih' none acc (by simp) (by omega)]
        simp [rounds, b52_0, List.replicate, hlt, hc, hw2, h32, fromI]
      | some f =>
        have hfp := hf f rfl
        simp only [hb]
        have e := ih' none (acc ++ [SV.str (List.drop f (List.take pre.length s))]) (by simp) (by simp; omega)
        rw [← e]
        cases acc with
        | nil => simp [rounds, b52_0, List.replicate, hlt, hle, hc, hw2, h32, hfp, fromI, accA]
        | cons y ys =>
          simp only [List.length_cons] at hl1 hl2
          simp [rounds, b52_0, List.replicate, hlt, hle, hc, hw2, h32, hfp, fromI, accA, hl1, hl2]
    · by_cases h9 : (c.toNat : Int) = 9
      · have hb : blankC c = true := by simp [blankC]; omega
        cases from_ with
        | none =>
          simp only [hb]
          rw [← ih' none acc (by simp) (by omega)]
          simp [rounds, b52_0, List.replicate, hlt, hc, hw2, h9, fromI]
        | some f =>
          have hfp := hf f rfl
          simp only [hb]
          have e := ih' none (acc ++ [SV.str (List.drop f (List.take pre.length s))]) (by simp) (by simp; omega)
          rw [← e]
          cases acc with
          | nil => simp [rounds, b52_0, List.replicate, hlt, hle, hc, hw2, h9, hfp, fromI, accA]
          | cons y ys =>
            simp only [List.length_cons] at hl1 hl2
            simp [rounds, b52_0, List.replicate, hlt, hle, hc, hw2, h9, hfp, fromI, accA, hl1, hl2]
      · have hb : blankC c = false := by simp [blankC]; omega
        have h32b : ((c.toNat : Int) == 32) = false := by simpa using h32
        have h9b : ((c.toNat : Int) == 9) = false := by simpa using h9
        cases from_ with
        | none =>
          simp only [hb]
          rw [← ih' (some pre.length) acc (by simp) (by omega)]
          simp [rounds, b52_0, List.replicate, hlt, hc, hw2, h32b, h9b, fromI]
        | some f =>
          have hfp := hf f rfl
          simp only [hb]
          rw [← ih' (some f) acc (by intro g hg; simp at hg; omega) (by omega)]
          have hneg : ¬ (f : Int) < 0 := by omega
          simp [rounds, b52_0, List.replicate, hlt, hc, hw2, h32b, h9b, fromI, hneg]

end Go.Ev

set_option linter.unusedSimpArgs false
set_option linter.unusedVariables false
namespace Go.Ev
open Go.Proofs

theorem fieldK_inv (s : List UInt8) : ∀ (rest : List UInt8) (i : Nat) (from_ : Option Nat) (acc : List SV), i + rest.length = s.length → (∀ f, from_ = some f → f ≤ i) → acc.length ≤ i → acc = strs (acc.map unstr) → (∀ x ∈ acc.map unstr, x.length ≤ s.length) →
    (∀ f, (fieldK s i rest (from_, acc)).1 = some f → f ≤ s.length) ∧ (fieldK s i rest (from_, acc)).2.length ≤ s.length ∧ (fieldK s i rest (from_, acc)).2 = strs ((fieldK s i rest (from_, acc)).2.map unstr) ∧ ∀ x ∈ (fieldK s i rest (from_, acc)).2.map unstr, x.length ≤ s.length
  | [], i, from_, acc, h1, h2, h3, h4, h5 => by
    simp only [List.length_nil] at h1
    simp only [fieldK]
    exact ⟨fun f hf => by have := h2 f hf; omega, by omega, h4, h5⟩
  | c :: rest, i, from_, acc, h1, h2, h3, h4, h5 => by
    simp only [List.length_cons] at h1
    have hstep : ∀ (fr : Option Nat) (ac : List SV), (∀ f, fr = some f → f ≤ i + 1) → ac.length ≤ i + 1 → ac = strs (ac.map unstr) → (∀ x ∈ ac.map unstr, x.length ≤ s.length) →
        (∀ f, (fieldK s (i + 1) rest (fr, ac)).1 = some f → f ≤ s.length) ∧ (fieldK s (i + 1) rest (fr, ac)).2.length ≤ s.length ∧ (fieldK s (i + 1) rest (fr, ac)).2 = strs ((fieldK s (i + 1) rest (fr, ac)).2.map unstr) ∧ ∀ x ∈ (fieldK s (i + 1) rest (fr, ac)).2.map unstr, x.length ≤ s.length :=
      fun fr ac g1 g2 g3 g4 => fieldK_inv s rest (i + 1) fr ac (by omega) g1 g2 g3 g4
    simp only [fieldK]
    cases blankC c with
    | true =>
      cases from_ with
      | none => exact hstep none acc (by simp) (by omega) h4 h5
      | some f =>
        refine hstep none _ (by simp) (by simp; omega) ?_ ?_
        · simp only [List.map_append, List.map_cons, List.map_nil, unstr, strs] at h4 ⊢
          rw [← h4]
        · intro x hx
          simp only [List.map_append, List.map_cons, List.map_nil, unstr, List.mem_append, List.mem_singleton] at hx
          rcases hx with hx | rfl
          · exact h5 x hx
          · simp; omega
    | false =>
      cases from_ with
      | none => exact hstep (some i) acc (by intro f hf; simp at hf; omega) (by omega) h4 h5
      | some f => exact hstep (some f) acc (by intro g hg; have := h2 g hg; omega) (by omega) h4 h5

def fieldsV (s : List UInt8) : List SV := match (fieldK s 0 s (none, [])).1 with
  | some f => (fieldK s 0 s (none, [])).2 ++ [.str (s.drop f)]
  | none => (fieldK s 0 s (none, [])).2

/-- A line's fields, as the reference finds them. -/
def fieldsL (s : List UInt8) : List (List UInt8) := (fieldsV s).map unstr

theorem fieldsV_shape (s : List UInt8) : fieldsV s = strs (fieldsL s) ∧ (fieldsL s).length ≤ s.length + 1 ∧ ∀ x ∈ fieldsL s, x.length ≤ s.length := by
  obtain ⟨h1, h2, h3, h4⟩ := fieldK_inv s s 0 none [] (by omega) (by simp) (Nat.le_refl _) rfl (by simp)
  unfold fieldsL fieldsV
  split
  · refine ⟨?_, by simp; omega, ?_⟩
    · simp only [List.map_append, List.map_cons, List.map_nil, unstr, strs] at h3 ⊢
      rw [← h3]
    · intro x hx
      simp only [List.map_append, List.map_cons, List.map_nil, unstr, List.mem_append, List.mem_singleton] at hx
      rcases hx with hx | rfl
      · exact h4 x hx
      · simp
  · exact ⟨h3, by simp; omega, h4⟩

theorem ev52 (E : Env) (h : E.code 61 = some c52) (s : List UInt8) (hs : s.length < 1000000000000) (n : Nat) (hn : s.length < n) :
    ∃ r, evP E n 61 [.str s] = some r ∧ r.elems = some (fieldsV s) := by
  unfold evP
  simp only [h]
  have hl := loop52 E (evF E n) s hs n s [] none [] n rfl (by simp) (Nat.le_refl _) hn
  obtain ⟨h1, h2, h3, h4⟩ := fieldK_inv s s 0 none [] (by omega) (by simp) (Nat.le_refl _) rfl (by simp)
  unfold fieldsV
  generalize fieldK s 0 s (none, []) = p at hl h1 h2 h3 h4 ⊢
  obtain ⟨from_, acc⟩ := p
  simp only at h1 h2 h3 h4 ⊢
  simp only [accA, List.replicate, List.cons_append, List.nil_append, List.length_nil, Int.ofNat_zero, Int.natCast_zero, fromI] at hl
  have hl1 : (acc.length + 1) * 16 ≤ 140737488355328 := by omega
  have hl2 : acc.length + 1 ≤ 140737488355328 := by omega
  cases from_ with
  | some f =>
    have hle := h1 f rfl
    cases acc with
    | nil => simp [c52, List.replicate, hl, hle, accA, fromI]
    | cons y ys =>
      simp only [List.length_cons] at hl1 hl2
      simp [c52, List.replicate, hl, hle, accA, hl1, hl2, fromI]
  | none =>
    cases acc with
    | nil => simp [c52, List.replicate, hl, accA, fromI]
    | cons y ys => simp [c52, List.replicate, hl, accA, fromI]

noncomputable def F52 : List SV → Option AV
  | [.str s] => onlyIf (s.length < 1000000000000) (some (.sv (.sl (fieldsV s))))
  | _ => none

/-- A row of a text. -/
structure RowD where
  name : List UInt8
  N : List Nat
  S : List (List UInt8)

def RowD.sv (r : RowD) : SV := .agg [.str r.name, .sl (u64s r.N), .sl (strs r.S)]

def rowsSV (l : List RowD) : List SV := l.map RowD.sv

theorem F52_eq (s : List UInt8) (hs : s.length < 1000000000000) : F52 [.str s] = some (.sv (.sl (strs (fieldsL s)))) := by
  unfold F52
  rw [← (fieldsV_shape s).1]
  exact onlyIf_pos hs

end Go.Ev

set_option linter.unusedSimpArgs false
set_option linter.unusedVariables false
namespace Go.Ev
open Go.Proofs

end Go.Ev

set_option linter.unusedSimpArgs false
set_option linter.unusedVariables false
namespace Go.Ev
open Go.Proofs

end Go.Ev

set_option linter.unusedSimpArgs false
set_option linter.unusedVariables false
namespace Go.Ev
open Go.Proofs

/-- Rows as a program can hold them. -/
def RowD.fits (r : RowD) : Prop := r.name.length < 100000000000 ∧ r.N.length < 100000000000 ∧ ∀ n ∈ r.N, n < 18446744073709551616

end Go.Ev

set_option linter.unusedSimpArgs false
set_option linter.unusedVariables false
namespace Go.Ev
open Go.Proofs

def unrow : SV → RowD
  | .agg [.str s, .sl ns, .sl ss] => ⟨s, ns.map unint, ss.map unstr⟩
  | _ => ⟨[], [], []⟩

theorem unrow_sv (r : RowD) : unrow r.sv = r := by
  obtain ⟨a, b, c⟩ := r
  simp only [RowD.sv, unrow, unu64s, unstrs]

theorem unrows (l : List RowD) : (rowsSV l).map unrow = l := by
  induction l with
  | nil => rfl
  | cons r l ih =>
    simp only [rowsSV, List.map_cons, unrow_sv]
    rw [show (l.map RowD.sv).map unrow = l from ih]

theorem F78_eq (s : List UInt8) (hs : s.length < 9223372036854775807) : F78 [.str s] = some (.sv (.bool (s.all plainC))) := onlyIf_pos hs

/-! ### Trees -/

/-- A tree, in its cells. -/
def nodeV (name : List UInt8) (kind : Int) (b : Bool) (i u : Int) (f : Nat) (s : List UInt8) (kids : List SV) : SV :=
  .agg [.str name, .int .i64 kind, .bool b, .int .i64 i, .int .u64 u, .flt .f64 f, .str s, .sl kids]

theorem ev33 (E : Env) (h : E.code 30 = some c33) (name : List UInt8) (kids : List SV) (n : Nat) : evP E n 30 [.str name, .sl kids] = some (.sv (nodeV name 8 false 0 0 0 [] kids)) := by
  unfold evP
  simp only [h]
  simp [c33, List.replicate, nodeV]

theorem ev36 (E : Env) (h : E.code 51 = some c36) (name : List UInt8) (kids : List SV) (n : Nat) : evP E n 51 [.str name, .sl kids] = some (.sv (nodeV name 6 false 0 0 0 [] kids)) := by
  unfold evP
  simp only [h]
  simp [c36, List.replicate, nodeV]

def F33 : List SV → Option AV
  | [.str name, .sl kids] => some (.sv (nodeV name 8 false 0 0 0 [] kids))
  | _ => none
def F36 : List SV → Option AV
  | [.str name, .sl kids] => some (.sv (nodeV name 6 false 0 0 0 [] kids))
  | _ => none
end Go.Ev

set_option linter.unusedSimpArgs false
set_option linter.unusedVariables false
namespace Go.Ev
open Go.Proofs

theorem decV_lt {s : List UInt8} {m : Nat} (h : decV s = some m) : m < 18446744073709551616 := by
  unfold decV at h
  split at h <;> try (simp at h; done)
  rename_i v hv
  split at h <;> simp only [Option.some.injEq, reduceCtorEq] at h
  subst h
  exact numV_lt (by omega) s 0 v (by omega) hv

theorem decsV_fit : ∀ {l : List (List UInt8)} {ms : List Nat}, decsV l = some ms → ms.length = l.length ∧ ∀ m ∈ ms, m < 18446744073709551616
  | [], ms, h => by simp only [decsV, Option.some.injEq] at h; subst h; simp
  | s :: l, ms, h => by
    simp only [decsV] at h
    split at h <;> try (simp at h; done)
    rename_i v hv
    split at h <;> simp only [Option.some.injEq, reduceCtorEq] at h
    rename_i vs hvs
    subst h
    obtain ⟨h1, h2⟩ := decsV_fit hvs
    exact ⟨by simp [h1], fun m hm => by
      rcases List.mem_cons.1 hm with rfl | hm
      · exact decV_lt hv
      · exact h2 m hm⟩

end Go.Ev

set_option linter.unusedSimpArgs false
set_option linter.unusedVariables false
namespace Go.Ev
open Go.Proofs

theorem F28_eq (s : List UInt8) (hs : s.length < 1000000000000) : F28 [.str s] = some (.sv (.sl (strs (linesL s)))) := by
  unfold F28
  rw [← (linesV_shape s).1]
  exact onlyIf_pos hs

end Go.Ev

set_option linter.unusedSimpArgs false
set_option linter.unusedVariables false
namespace Go.Ev
open Go.Proofs

end Go.Ev

set_option linter.unusedSimpArgs false
set_option linter.unusedVariables false
namespace Go.Ev
open Go.Proofs

def rowBox (r : RowD) : Box := .live [.sv (.str r.name), .sv (.sl (u64s r.N)), .sv (.sl (strs r.S))]

end Go.Ev

set_option linter.unusedSimpArgs false
set_option linter.unusedVariables false
namespace Go.Ev
open Go.Proofs

def accC (e : Nat) : List SV → Cell
  | [] => .sv .nilS
  | x :: xs => .own e (x :: xs)

def zeroBox : Box := .live [.sv (.str []), .sv (.int .i64 0), .sv (.bool false), .sv (.int .i64 0), .sv (.int .u64 0), .sv (.flt .f64 0), .sv (.str []), .sv .nilS]

def nodeBox (name : List UInt8) (kind : Int) (b : Bool) (i u : Int) (f : Nat) (s : List UInt8) (k : Cell) : Box := .live [.sv (.str name), .sv (.int .i64 kind), .sv (.bool b), .sv (.int .i64 i), .sv (.int .u64 u), .sv (.flt .f64 f), .sv (.str s), k]

set_option maxHeartbeats 4000000 in
theorem step27 (E : Env) (cf : CallF) (G : List SV → Option AV) (hP : E.pure 24 = some G) (xs : List SV) (m k j : Nat) (n0 : List UInt8) (k0 : Int) (b0 : Bool) (i0 u0 : Int) (f0 : Nat) (s0 : List UInt8) (x1 : List SV) (bx0 bx1 : Box) (bx : List Box) (acc : List SV) (name : List UInt8) (kind : Int) (b : Bool) (i u : Int) (f : Nat) (s : List UInt8)
    (hj : j < xs.length) (hc : ∀ h : j < xs.length, xs[j]'h = nodeV n0 k0 b0 i0 u0 f0 s0 x1) (hG : G [nodeV n0 k0 b0 i0 u0 f0 s0 x1] = some (.sv (nodeV n0 k0 b0 i0 u0 f0 s0 x1))) (hal : acc.length < 1000000000) (hxs : xs.length < 1000000000) :
    rounds (evC E cf m b27_0) (k + 1) { tm := [.sv .undef, .sv .undef, .ptr 1 0, .ptr 2 0] ++ List.replicate 18 (.sv .undef) ++ [.sv (.sl xs), .sv (.int .i64 xs.length), .sv (.int .i64 j)] ++ List.replicate 12 (.sv .undef), lz := none, bx := bx0 :: bx1 :: nodeBox name kind b i u f s (accC 43 acc) :: bx, df := [] } =
      rounds (evC E cf m b27_0) k { tm := [.sv .undef, .sv .undef, .ptr 1 0, .ptr 2 0] ++ List.replicate 18 (.sv .undef) ++ [.sv (.sl xs), .sv (.int .i64 xs.length), .sv (.int .i64 (j + 1 : Nat))] ++ List.replicate 12 (.sv .undef), lz := none, bx := bx0 :: bx1 :: nodeBox name kind b i u f s (accC 43 (acc ++ [nodeV n0 k0 b0 i0 u0 f0 s0 x1])) :: (bx ++ [nodeBox n0 k0 b0 i0 u0 f0 s0 (.sv (.sl x1))]), df := [] } := by
  have hw2 : IntKind.i64.wrap ((j : Int) + 1) = ((j + 1 : Nat) : Int) := by rw [IntKind.wrap_i64]; omega
  have hl1 : (acc.length + 1) * 96 ≤ 140737488355328 := by omega
  have hl2 : acc.length + 1 ≤ 140737488355328 := by omega
  simp only [nodeV] at hc hG
  cases acc with
  | nil => simp [rounds, b27_0, List.replicate, hj, hc, hP, hG, nodeBox, accC, hw2, nodeV]
  | cons q qs =>
    simp only [List.length_cons] at hl1 hl2
    simp [rounds, b27_0, List.replicate, hj, hc, hP, hG, nodeBox, accC, hw2, nodeV, hl1, hl2]

end Go.Ev

set_option linter.unusedSimpArgs false
set_option linter.unusedVariables false
namespace Go.Ev
open Go.Proofs

inductive IsNode : SV → Prop
  | mk (name : List UInt8) (kind : Int) (b : Bool) (i u : Int) (f : Nat) (s : List UInt8) (kids : List SV) (hl : kids.length < 1000000000) (h : ∀ k ∈ kids, IsNode k) : IsNode (nodeV name kind b i u f s kids)

theorem loop27 (E : Env) (cf : CallF) (G : List SV → Option AV) (hP : E.pure 24 = some G) (xs : List SV) (m : Nat) (hxs : xs.length < 1000000000) (bx0 bx1 : Box) (name : List UInt8) (kind : Int) (b : Bool) (i u : Int) (f : Nat) (s : List UInt8) :
    ∀ (rest pre : List SV) (bx : List Box) (k : Nat), xs = pre ++ rest → (∀ v ∈ rest, IsNode v ∧ G [v] = some (.sv v)) → rest.length < k →
      ∃ bx', rounds (evC E cf m b27_0) k { tm := [.sv .undef, .sv .undef, .ptr 1 0, .ptr 2 0] ++ List.replicate 18 (.sv .undef) ++ [.sv (.sl xs), .sv (.int .i64 xs.length), .sv (.int .i64 pre.length)] ++ List.replicate 12 (.sv .undef), lz := none, bx := bx0 :: bx1 :: nodeBox name kind b i u f s (accC 43 pre) :: bx, df := [] } =
        some (.exit 0, { tm := [.sv .undef, .sv .undef, .ptr 1 0, .ptr 2 0] ++ List.replicate 33 (.sv .undef), lz := none, bx := bx0 :: bx1 :: nodeBox name kind b i u f s (accC 43 xs) :: bx', df := [] }) := by
  intro rest
  induction rest with
  | nil =>
    intro pre bx k hsp _ hk
    obtain ⟨k, rfl⟩ : ∃ k', k = k' + 1 := ⟨k - 1, by omega⟩
    have hlt : ¬ (pre.length < xs.length) := by rw [hsp]; simp
    have he : pre = xs := by rw [hsp]; simp
    subst he
    exact ⟨bx, by simp [rounds, b27_0, List.replicate]⟩
  | cons r rest ih =>
    intro pre bx k hsp hr hk
    obtain ⟨k, rfl⟩ : ∃ k', k = k' + 1 := ⟨k - 1, by omega⟩
    have hlt : pre.length < xs.length := by rw [hsp]; simp
    obtain ⟨hn, hG⟩ := hr r (by simp)
    cases hn with
    | mk n0 k0 b0 i0 u0 f0 s0 x1 hl1 hk1 =>
      have hc : ∀ h : pre.length < xs.length, xs[pre.length]'h = nodeV n0 k0 b0 i0 u0 f0 s0 x1 := by subst hsp; simp
      rw [step27 E cf G hP xs m k pre.length n0 k0 b0 i0 u0 f0 s0 x1 bx0 bx1 bx pre name kind b i u f s hlt hc hG (by omega) hxs]
      obtain ⟨bx', he⟩ := ih (pre ++ [nodeV n0 k0 b0 i0 u0 f0 s0 x1]) (bx ++ [nodeBox n0 k0 b0 i0 u0 f0 s0 (.sv (.sl x1))]) k (by rw [hsp]; simp) (fun v hv => hr v (by simp [hv])) (by simp at hk; omega)
      rw [show ((pre ++ [nodeV n0 k0 b0 i0 u0 f0 s0 x1]).length : Int) = ((pre.length + 1 : Nat) : Int) from by simp] at he
      exact ⟨bx', he⟩

theorem ev27 (E : Env) (h : E.code 24 = some c27) (G : List SV → Option AV) (hP : E.pure 24 = some G) (name : List UInt8) (kind : Int) (b : Bool) (i u : Int) (f : Nat) (s : List UInt8) (kids : List SV) (hl : kids.length < 1000000000) (hG : ∀ v ∈ kids, IsNode v ∧ G [v] = some (.sv v)) (n : Nat) (hn : kids.length < n) :
    evP E n 24 [nodeV name kind b i u f s kids] = some (.sv (nodeV name kind b i u f s kids)) := by
  unfold evP
  simp only [h]
  obtain ⟨bx', he⟩ := loop27 E (evF E n) G hP kids n hl (nodeBox name kind b i u f s (.sv (.sl kids))) zeroBox name kind b i u f s kids [] [] n rfl hG hn
  simp only [accC, List.replicate, List.cons_append, List.nil_append, List.length_nil, Int.ofNat_zero, Int.natCast_zero, nodeBox, zeroBox] at he
  cases kids with
  | nil => simp [accC] at he; simp [c27, List.replicate, nodeV, he, accC]
  | cons q qs => simp [accC] at he; simp [c27, List.replicate, nodeV, he, accC]

end Go.Ev

set_option linter.unusedSimpArgs false
set_option linter.unusedVariables false
namespace Go.Ev
open Go.Proofs

set_option maxHeartbeats 4000000 in
theorem loop26 (E : Env) (cf : CallF) (G : List SV → Option AV) (hP : E.pure 23 = some G) (xs : List SV) (m : Nat) (hxs : xs.length < 1000000000) (name : List UInt8) (kind : Int) (b : Bool) (i u : Int) (f : Nat) (s : List UInt8) :
    ∀ (rest pre : List SV) (k : Nat), xs = pre ++ rest → (∀ v ∈ rest, IsNode v ∧ G [v, v] = some (.sv (.bool true))) → rest.length < k →
      rounds (evC E cf m b26_0) k { tm := [.sv .undef, .sv .undef, .ptr 0 0, .ptr 1 0] ++ List.replicate 62 (.sv .undef) ++ [.sv (.int .i64 xs.length), .sv (.int .i64 pre.length)] ++ List.replicate 15 (.sv .undef), lz := none, bx := [nodeBox name kind b i u f s (.sv (.sl xs)), nodeBox name kind b i u f s (.sv (.sl xs))], df := [] } =
        some (.exit 0, { tm := List.replicate 83 (.sv .undef), lz := none, bx := [nodeBox name kind b i u f s (.sv (.sl xs)), nodeBox name kind b i u f s (.sv (.sl xs))], df := [] }) := by
  intro rest
  induction rest with
  | nil =>
    intro pre k hsp _ hk
    obtain ⟨k, rfl⟩ : ∃ k', k = k' + 1 := ⟨k - 1, by omega⟩
    have hlt : ¬ (pre.length < xs.length) := by rw [hsp]; simp
    simp [rounds, b26_0, List.replicate, hlt]
  | cons r rest ih =>
    intro pre k hsp hr hk
    obtain ⟨k, rfl⟩ : ∃ k', k = k' + 1 := ⟨k - 1, by omega⟩
    have hlt : pre.length < xs.length := by rw [hsp]; simp
    obtain ⟨hn, hG⟩ := hr r (by simp)
    cases hn with
    | mk n0 k0 b0 i0 u0 f0 s0 x1 hl1 hk1 =>
      have hc : ∀ h : pre.length < xs.length, xs[pre.length]'h = nodeV n0 k0 b0 i0 u0 f0 s0 x1 := by subst hsp; simp
      have hw2 : IntKind.i64.wrap ((pre.length : Int) + 1) = ((pre.length + 1 : Nat) : Int) := by rw [IntKind.wrap_i64]; omega
      have he := ih (pre ++ [nodeV n0 k0 b0 i0 u0 f0 s0 x1]) k (by rw [hsp]; simp) (fun v hv => hr v (by simp [hv])) (by simp at hk; omega)
      rw [show ((pre ++ [nodeV n0 k0 b0 i0 u0 f0 s0 x1]).length : Int) = ((pre.length + 1 : Nat) : Int) from by simp] at he
      rw [← he]
      simp only [nodeV] at hc hG
      simp [rounds, b26_0, List.replicate, hlt, hc, hP, hG, nodeBox, hw2]

end Go.Ev

set_option linter.unusedSimpArgs false
set_option linter.unusedVariables false
namespace Go.Ev
open Go.Proofs

def F75 : List SV → Option AV
  | [.flt .f64 b] => some (.sv (.int .u64 b))
  | _ => none

set_option maxHeartbeats 8000000 in
theorem ev26 (E : Env) (h : E.code 23 = some c26) (G : List SV → Option AV) (hP : E.pure 23 = some G) (h75 : E.pure 64 = some F75) (name : List UInt8) (kind : Int) (b : Bool) (i u : Int) (f : Nat) (s : List UInt8) (kids : List SV) (hl : kids.length < 1000000000) (hG : ∀ v ∈ kids, IsNode v ∧ G [v, v] = some (.sv (.bool true))) (n : Nat) (hn : kids.length < n) :
    evP E n 23 [nodeV name kind b i u f s kids, nodeV name kind b i u f s kids] = some (.sv (.bool true)) := by
  unfold evP
  simp only [h]
  have he := loop26 E (evF E n) G hP kids n hl name kind b i u f s kids [] n rfl hG hn
  simp only [List.replicate, List.cons_append, List.nil_append, List.length_nil, Int.ofNat_zero, Int.natCast_zero, nodeBox] at he
  simp [c26, List.replicate, nodeV, he, h75, F75]

end Go.Ev

set_option linter.unusedSimpArgs false
set_option linter.unusedVariables false
namespace Go.Ev
open Go.Proofs

theorem ev38 (E : Env) (h : E.code 53 = some c38) (s : List UInt8) (n : Nat) : evP E n 53 [.str s] = some (.sv (.agg [.str s])) := by
  unfold evP
  simp only [h]
  simp [c38, List.replicate]

theorem ev85 (E : Env) (h : E.code 98 = some c85) (s : List UInt8) (l : List SV) (n : Nat) : evP E n 98 [.str s, .sl l] = some (.sv (.str s)) := by
  unfold evP
  simp only [h]
  simp [c85, List.replicate]

theorem ev99 (E : Env) (h : E.code 99 = some c99) (s : List UInt8) (hs : s.length ≤ 1048576) (n : Nat) : evP E n 99 [.str s] = some (.sv (.tup [.sl (bytesSV s), .nilI])) := by
  unfold evP
  simp only [h]
  have e : ¬ ((1048576 : Int) < (s.length : Int)) := by omega
  by_cases hs0 : s = []
  · subst hs0; simp [c99, List.replicate]
  · have hp : List.map (Cell.plain ∘ Cell.sv) (bytesSV s) = bytesSV s := by
      unfold bytesSV
      rw [List.map_map]; rfl
    have hl : (bytesSV s).length = s.length := by simp [bytesSV]
    simp [c99, List.replicate, e, hs0, hp, hl]

def F38 : List SV → Option AV
  | [.str s] => some (.sv (.agg [.str s]))
  | _ => none
def F85 : List SV → Option AV
  | [.str s, .sl _] => some (.sv (.str s))
  | _ => none
noncomputable def F99 : List SV → Option AV
  | [.str s] => onlyIf (s.length ≤ 1048576) (some (.sv (.tup [.sl (bytesSV s), .nilI])))
  | _ => none

end Go.Ev

set_option linter.unusedSimpArgs false
set_option linter.unusedVariables false
namespace Go.Ev
open Go.Proofs

/-- A scanner's box: what is left, the line, the longest line, the error. -/
def scanBox (left line : List UInt8) : Box := .live [.sv (.str left), .sv (.str line), .sv (.int .i64 65536), .sv .nilI]

theorem evF90 (E : Env) (h : E.code 77 = some c90) (n i : Nat) (bx : List Box) (l t : List UInt8) (hb : bx[i]? = some (scanBox l t)) : evF E (n + 1) 77 [.ptr i 0] bx = some (.sv (.str t), bx) := by
  simp only [evF, h]
  simp only [scanBox] at hb
  simp [c90, List.replicate, hb]

theorem evF128 (E : Env) (h : E.code 85 = some c128) (n i : Nat) (bx : List Box) (l t : List UInt8) (hb : bx[i]? = some (scanBox l t)) : evF E (n + 1) 85 [.ptr i 0] bx = some (.sv .nilI, bx) := by
  simp only [evF, h]
  simp only [scanBox] at hb
  simp [c128, List.replicate, hb]

theorem evF87 (E : Env) (h : E.code 74 = some c87) (n : Nat) (bx : List Box) (s : List UInt8) : evF E (n + 1) 74 [.sv (.str s)] bx = some (.ptr bx.length 0, bx ++ [scanBox s []]) := by
  simp only [evF, h]
  simp [c87, List.replicate, scanBox]

end Go.Ev

set_option linter.unusedSimpArgs false
set_option linter.unusedVariables false
namespace Go.Ev
open Go.Proofs

theorem loop88 (E : Env) (cf : CallF) (i : Nat) (bx : List Box) (left after_ : List UInt8) (m : Nat) (hb : bx[i]? = some (scanBox left [])) :
    ∀ (rest pre : List UInt8) (k : Nat), left = pre ++ rest ++ 10 :: after_ → left.length < 9223372036854775807 → (∀ c ∈ rest, c.toNat ≠ 10) → rest.length < k →
      rounds (evC E cf m b88_0) k { tm := [.ptr i 0, .sv .undef, .sv .undef, .sv (.int .i64 pre.length)] ++ List.replicate 104 (.sv .undef), lz := none, bx := bx, df := [] } =
        some (.exit 0, { tm := [.ptr i 0, .sv .undef, .sv .undef, .sv (.int .i64 (pre ++ rest).length)] ++ List.replicate 104 (.sv .undef), lz := none, bx := bx, df := [] }) := by
  simp only [scanBox] at hb
  intro rest
  induction rest with
  | nil =>
    intro pre k hsp hl hr hk
    obtain ⟨k, rfl⟩ : ∃ k', k = k' + 1 := ⟨k - 1, by omega⟩
    have hlt : pre.length < left.length := by rw [hsp]; simp
    have hc : ∀ h : pre.length < left.length, left[pre.length]'h = 10 := by subst hsp; simp
    simp [rounds, b88_0, List.replicate, hb, hlt, hc]
  | cons c rest ih =>
    intro pre k hsp hl hr hk
    obtain ⟨k, rfl⟩ : ∃ k', k = k' + 1 := ⟨k - 1, by omega⟩
    have hlt : pre.length < left.length := by rw [hsp]; simp
    have hc : ∀ h : pre.length < left.length, left[pre.length]'h = c := by subst hsp; simp
    have hne : ¬ (c.toNat : Int) = 10 := by have := hr c (by simp); omega
    have hneb : ((c.toNat : Int) == 10) = false := by simpa using hne
    have hnec : ((c.toNat : Int) != 10) = true := by simpa using hne
    have hw2 : IntKind.i64.wrap ((pre.length : Int) + 1) = ((pre ++ [c]).length : Int) := by rw [IntKind.wrap_i64]; simp; omega
    have := ih (pre ++ [c]) k (by rw [hsp]; simp) hl (fun x hx => hr x (by simp [hx])) (by simp at hk; omega)
    rw [show pre ++ [c] ++ rest = pre ++ c :: rest from by simp] at this
    rw [← this]
    simp [rounds, b88_0, List.replicate, hb, hlt, hc, hne, hneb, hnec, hw2]

/-- The next line. -/
theorem scan88 (E : Env) (h : E.code 75 = some c88) (i : Nat) (bx : List Box) (line after_ t : List UInt8) (hb : bx[i]? = some (scanBox (line ++ 10 :: after_) t)) (hl : line.length < 65536) (hal : after_.length < 1000000000) (hr : ∀ c ∈ line, c.toNat ≠ 10 ∧ c.toNat ≠ 13) (n : Nat) (hn : line.length < n) :
    evF E (n + 1) 75 [.ptr i 0] bx = some (.sv (.bool true), bx.set i (scanBox after_ line)) := by
  have hil : i < bx.length := (List.getElem?_eq_some_iff.1 hb).1
  have hb1 : (bx.set i (scanBox (line ++ 10 :: after_) []))[i]? = some (scanBox (line ++ 10 :: after_) []) := by simp [hil]
  have he := loop88 E (evF E n) i (bx.set i (scanBox (line ++ 10 :: after_) [])) (line ++ 10 :: after_) after_ n hb1 line [] n rfl (by simp; omega) (fun c hc => (hr c hc).1) hn
  simp only [scanBox, List.replicate, List.cons_append, List.nil_append, List.length_nil, Int.ofNat_zero, Int.natCast_zero] at he hb
  have hbi : ∀ h : i < bx.length, bx[i]'h = .live [.sv (.str (line ++ 10 :: after_)), .sv (.str t), .sv (.int .i64 65536), .sv .nilI] := fun h => by
    rw [List.getElem?_eq_getElem h] at hb; exact Option.some.inj hb
  have hw : IntKind.i64.wrap ((line.length : Int) + 1) = ((line.length + 1 : Nat) : Int) := by rw [IntKind.wrap_i64]; omega
  have g1 : ¬ (65536 : Int) ≤ (line.length : Int) := by omega
  have g2 : (line.length : Int) ≤ (line.length : Int) + ((after_.length : Int) + 1) := by omega
  have g3 : (line.length : Int) < (line.length : Int) + ((after_.length : Int) + 1) := by omega
  have g4 : (line.length : Int) + 1 ≤ (line.length : Int) + ((after_.length : Int) + 1) := by omega
  have g5 : (0 : Int) ≤ (line.length : Int) + ((after_.length : Int) + 1) := by omega
  have g6 : (0 : Int) ≤ (line.length : Int) + 1 := by omega
  have g7 : (line.length : Int) + 1 ≤ max ((line.length : Int) + ((after_.length : Int) + 1)) 0 := by omega
  have g8 : ((line.length : Int) + ((after_.length : Int) + 1)).toNat = line.length + (after_.length + 1) := by omega
  have ht : List.take line.length (line ++ 10 :: after_) = line := by simp
  have hd : List.drop (line.length + 1) (line ++ 10 :: after_) = after_ := by simp
  have hta : List.take (line.length + (after_.length + 1)) (line ++ 10 :: after_) = line ++ 10 :: after_ := List.take_of_length_le (by simp)
  simp only [evF, h]
  by_cases hl0 : line = []
  · subst hl0
    simp at *
    simp [c88, List.replicate, hbi, hil, he, scanBox, hw, g1, g2, g3, g4, g5, g6, ht, hd, hta]
  · have hpos : 0 < line.length := by
      cases line with
      | nil => exact absurd rfl hl0
      | cons x xs => simp
    have hposI : (0 : Int) < (line.length : Int) := by omega
    have wm : IntKind.i64.wrap ((line.length : Int) - 1) = ((line.length - 1 : Nat) : Int) := by rw [IntKind.wrap_i64]; omega
    have hlt1 : line.length - 1 < line.length := by omega
    have hlast := (hr (line[line.length - 1]'hlt1) (List.getElem_mem hlt1)).2
    have hl13 : ¬ ((line[line.length - 1]'hlt1).toNat : Int) = 13 := by omega
    have hl13b : (((line[line.length - 1]'hlt1).toNat : Int) == 13) = false := by simpa using hl13
    simp [c88, List.replicate, hbi, hil, he, scanBox, hw, g1, g2, g3, g4, g5, g6, ht, hd, hta, hpos, hposI, wm, hlt1, hl13, hl13b, g7, g8]

end Go.Ev
