/- Deferred closures that only look whether there is a panic; a deferred Close: lines printed by a program of this work (quiet.py). -/
/- A function that only looks into a box: what a scanner says of errors. -/
/- From a row's condition on its listed variables to what the evaluator reads in them. -/
import Derived.Test.YtkpjijiiegdcaaaGreatDoorMag
import Derived.Test.YtkpjijiiegdcaaaGreatDoorRows
import Derived.Tactics
import Derived.Tactics2
import Derived.Defers
import Derived.Recover
import Derived.LaidMore
import Derived.OpenShut
set_option linter.unusedSimpArgs false
set_option linter.unusedVariables false
namespace Go.Ev
open Go.Proofs

theorem quiet177 (args : Array Value) (w : World) : CallsD Tryz.prog 177 args .returning w fun e u' w' => (∃ v, e = .returned v) ∧ u' = .returning ∧ w' = w := by
  refine callsD_of_wpS Tryz.func177 rfl fun c₀ cs hu => ?_
  have hT : Tryz.f177.ntmps ≤ (args ++ Array.replicate (Tryz.f177.ntmps - args.size) undef).size := by simp; omega
  rw [Tryz.ntmps177] at hT ⊢
  generalize (args ++ Array.replicate (_ - args.size) undef) = T at hT
  have h2 : 2 < T.size := by omega
  have h3 : 3 < T.size := by omega
  apply wpS_seq
  apply wpS_region
  simp [wpOpsS, go_sem, recoverD, hu, Exit.thenS, h2, h3]
  refine wpS_cond (t := false) (by simp [Act.eval, h3]) ?_
  simp only [Bool.false_eq_true, if_false]
  refine wpS_of_wp (wp_skip ?_)
  cases c₀
  simp_all [bodyPostS, results, Tryz.results177]

theorem quiet205 (args : Array Value) (w : World) : CallsD Tryz.prog 205 args .returning w fun e u' w' => (∃ v, e = .returned v) ∧ u' = .returning ∧ w' = w := by
  refine callsD_of_wpS Tryz.func205 rfl fun c₀ cs hu => ?_
  have hT : Tryz.f205.ntmps ≤ (args ++ Array.replicate (Tryz.f205.ntmps - args.size) undef).size := by simp; omega
  rw [Tryz.ntmps205] at hT ⊢
  generalize (args ++ Array.replicate (_ - args.size) undef) = T at hT
  have h2 : 2 < T.size := by omega
  have h3 : 3 < T.size := by omega
  apply wpS_seq
  apply wpS_region
  simp [wpOpsS, go_sem, recoverD, hu, Exit.thenS, h2, h3]
  refine wpS_cond (t := false) (by simp [Act.eval, h3]) ?_
  simp only [Bool.false_eq_true, if_false]
  refine wpS_of_wp (wp_skip ?_)
  cases c₀
  simp_all [bodyPostS, results, Tryz.results205]

theorem quiet62 (args : Array Value) (w : World) : CallsD Tryz.prog 62 args .returning w fun e u' w' => (∃ v, e = .returned v) ∧ u' = .returning ∧ w' = w := by
  refine callsD_of_wpS Tryz.func62 rfl fun c₀ cs hu => ?_
  have hT : Tryz.f62.ntmps ≤ (args ++ Array.replicate (Tryz.f62.ntmps - args.size) undef).size := by simp; omega
  rw [Tryz.ntmps62] at hT ⊢
  generalize (args ++ Array.replicate (_ - args.size) undef) = T at hT
  have h2 : 2 < T.size := by omega
  have h3 : 3 < T.size := by omega
  apply wpS_seq
  apply wpS_region
  simp [wpOpsS, go_sem, recoverD, hu, Exit.thenS, h2, h3]
  refine wpS_cond (t := false) (by simp [Act.eval, h3]) ?_
  simp only [Bool.false_eq_true, if_false]
  refine wpS_of_wp (wp_skip ?_)
  cases c₀
  simp_all [bodyPostS, results, Tryz.results62]

theorem quiet180 (args : Array Value) (w : World) : CallsD Tryz.prog 180 args .returning w fun e u' w' => (∃ v, e = .returned v) ∧ u' = .returning ∧ w' = w := by
  refine callsD_of_wpS Tryz.func180 rfl fun c₀ cs hu => ?_
  have hT : Tryz.f180.ntmps ≤ (args ++ Array.replicate (Tryz.f180.ntmps - args.size) undef).size := by simp; omega
  rw [Tryz.ntmps180] at hT ⊢
  generalize (args ++ Array.replicate (_ - args.size) undef) = T at hT
  have h2 : 2 < T.size := by omega
  apply wpS_seq
  apply wpS_region
  simp [wpOpsS, go_sem, recoverD, hu, Exit.thenS, h2]
  apply wpS_seq
  apply wpS_region
  simp [wpOpsS, go_sem, recoverD, hu, Exit.thenS, h2]
  refine wpS_of_wp ?_
  cases c₀
  simp_all [bodyPostS, results, Tryz.results180, wp_ret]

/-- The functions that only look whether there is a panic when they are deferred. -/
def quietT (f : Nat) : Bool := [180, 177, 205, 62].contains f

theorem quiet_ok (E : Env) (hE : E.quiet = quietT) : QuietOK Tryz.prog E := by
  intro f hf args w
  rw [hE] at hf
  simp only [quietT, List.contains_eq_mem, List.mem_cons, List.not_mem_nil, or_false, decide_eq_true_eq] at hf
  rcases hf with rfl | rfl | rfl | rfl
  · exact ⟨by simp [callFunc, Tryz.func180, show (Tryz.f180.name == "runtime.NumGoroutine") = false by kernel_rfl, show Tryz.f180.name ≠ "runtime.NumGoroutine" from of_decide_eq_true (by kernel_rfl), Tryz.f180], quiet180 args w⟩
  · exact ⟨by simp [callFunc, Tryz.func177, show (Tryz.f177.name == "runtime.NumGoroutine") = false by kernel_rfl, show Tryz.f177.name ≠ "runtime.NumGoroutine" from of_decide_eq_true (by kernel_rfl), Tryz.f177], quiet177 args w⟩
  · exact ⟨by simp [callFunc, Tryz.func205, show (Tryz.f205.name == "runtime.NumGoroutine") = false by kernel_rfl, show Tryz.f205.name ≠ "runtime.NumGoroutine" from of_decide_eq_true (by kernel_rfl), Tryz.f205], quiet205 args w⟩
  · exact ⟨by simp [callFunc, Tryz.func62, show (Tryz.f62.name == "runtime.NumGoroutine") = false by kernel_rfl, show Tryz.f62.name ≠ "runtime.NumGoroutine" from of_decide_eq_true (by kernel_rfl), Tryz.f62], quiet62 args w⟩

end Go.Ev

set_option linter.unusedSimpArgs false
set_option linter.unusedVariables false
namespace Go.Ev
open Go.Proofs

def wpOpsL (P : Program) (ops : Array Oper) (Q : Exit → Act → World → Prop) : List Nat → Act → World → Prop
  | [], a, w => Q .normal a w
  | i :: rest, a, w =>
    match ops[i]? with
    | none => wpOpsL P ops Q rest a w
    | some o => if Region.wanted o (yielded ops a.tmps) then o.wp P a w (wpOpsL P ops Q rest) Q else wpOpsL P ops Q rest (a.put o.dst undef) w

theorem wpOpsL_ok {P : Program} {ops : Array Oper} {Q : Exit → Act → World → Prop} : ∀ (l : List Nat) (a : Act) (w : World), wpOpsL P ops Q l a w → wpOps P ops Q l a w
  | [], _, _, h => h
  | i :: rest, a, w, h => by
    unfold wpOpsL at h
    unfold wpOps
    split at h
    · rename_i e; rw [e]; exact wpOpsL_ok rest a w h
    · rename_i o e
      rw [e]
      simp only
      split at h
      · rename_i hw; rw [if_pos hw]; exact .inl (Oper.wp_mono (fun a w => wpOpsL_ok rest a w) h)
      · rename_i hw; rw [if_neg hw]; exact wpOpsL_ok rest _ w h

theorem lookErr (b : Nat) (w : World) (u : Value) (hu : w.cell? ⟨b, 3, none⟩ = some u) (us : Array Value) (hs : us.size = 1) (h0 : us.getD 0 undef = .pointer (some ⟨b, 0, none⟩)) :
    Calls Tryz.prog 187 us w fun e w' => ∃ v, e = .returned v ∧ v = u ∧ w' = w := by
  obtain ⟨x, rfl⟩ : ∃ x, us = #[x] := by
    refine ⟨us.getD 0 undef, ?_⟩
    apply Array.ext (by simp [hs])
    intro i h1 h2
    have : i = 0 := by omega
    subst this
    simp [Array.getD, hs]
  simp at h0
  subst h0
  refine calls_of_wp Tryz.func187 rfl ?_
  apply wp_seq
  apply wp_region
  apply wpOpsL_ok
  simp [wpOpsL, go_sem, Exit.then]
  apply wp_seq
  apply wp_region
  apply wpOpsL_ok
  simp [wpOpsL, go_sem, Exit.then, hu]
  refine wp_ret ?_
  simp [bodyPost, results, Tryz.results187]

end Go.Ev

set_option linter.unusedSimpArgs false
set_option linter.unusedVariables false
namespace Go.Ev

theorem mapM_at' {α β : Type} {f : α → Option β} : ∀ {l : List α} {r : List β}, l.mapM f = some r → ∀ (i : Nat) (a : α), l[i]? = some a → ∃ b, r[i]? = some b ∧ f a = some b
  | [], _, _, i, a, ha => by simp at ha
  | x :: l, r, h, i, a, ha => by
    simp only [List.mapM_cons, Option.bind_eq_bind, Option.bind_eq_some_iff, Option.pure_def, Option.some.injEq] at h
    obtain ⟨b, hb, r', hr', rfl⟩ := h
    cases i with
    | zero => simp only [List.getElem?_cons_zero, Option.some.injEq] at ha; subst ha; exact ⟨b, rfl, hb⟩
    | succ i => exact mapM_at' hr' i a (by simpa using ha)

theorem mapM_len {α β : Type} {f : α → Option β} : ∀ {l : List α} {r : List β}, l.mapM f = some r → r.length = l.length
  | [], r, h => by simp at h; subst h; rfl
  | x :: l, r, h => by
    simp only [List.mapM_cons, Option.bind_eq_bind, Option.bind_eq_some_iff, Option.pure_def, Option.some.injEq] at h
    obtain ⟨b, hb, r', hr', rfl⟩ := h
    simp [mapM_len hr']

def litV : Lit → Value
  | .bool b => .bool b
  | .int k n => .int k n
  | .float k b => .float k b
  | .string s => .string ⟨s.toArray⟩
  | .nil => .nilIface

def litS : Lit → SV
  | .bool b => .bool b
  | .int k n => .int k n
  | .float k b => .flt k b
  | .string s => .str s
  | .nil => .nilI

theorem litS_one (l : Lit) : (litS l).one = true := by cases l <;> rfl
theorem litS_cells (l : Lit) : (litS l).cells = [litS l] := by cases l <;> rfl
theorem litS_rep (F : Frz) (l : Lit) : RepS F (litS l) (litV l) := by cases l <;> constructor

theorem lit_cells {H : Type} {enc : TypeId × Value → H} {P : Program} {w : World} {base : Nat} {sp : Nat → Bool} {held : Bool} {fuel : Nat} {t : TypeId} {cs : List Value} {l : Lit} {p : List MemPlace}
    (h : DataW.trod enc P w base sp held fuel t cs = some (.lit l, p)) : cs = [litV l] := by
  cases fuel with
  | zero => simp [DataW.trod] at h
  | succ m =>
    unfold DataW.trod at h
    split at h
    all_goals first
      | (simp at h; done)
      | (simp only [Option.some.injEq, Prod.mk.injEq, DataW.lit.injEq] at h; obtain ⟨rfl, _⟩ := h; rfl)
      | (simp only [Option.map_eq_some_iff, Prod.mk.injEq] at h; obtain ⟨_, _, h, _⟩ := h; cases h)
      | skip
    all_goals (split at h <;> try (simp at h; done))
    all_goals first
      | (rename_i hh; simp only [Option.some.injEq, Prod.mk.injEq, DataW.lit.injEq] at h; obtain ⟨rfl, _⟩ := h; obtain ⟨rfl, _⟩ := hh; rfl)
      | (simp only [Option.some.injEq, Prod.mk.injEq, DataW.lit.injEq] at h; obtain ⟨rfl, _⟩ := h; rfl)
      | (simp only [Option.map_eq_some_iff, Prod.mk.injEq] at h; obtain ⟨_, _, h, _⟩ := h; cases h)
      | (simp only [Option.bind_eq_some_iff, Option.map_eq_some_iff, Prod.mk.injEq] at h; obtain ⟨_, _, _, _, h, _⟩ := h; cases h)
      | skip
    all_goals (split at h <;> try (simp at h; done))
    all_goals (simp only [Option.bind_eq_some_iff] at h; obtain ⟨_, _, h⟩ := h; split at h <;> simp at h)

/-- The cells of a row of plain values. -/
theorem ref_of_lits {F : Frz} {g : Nat} {ls : List Lit} {cs : List Value} (hc : cs = ls.map litV) (hF : ∀ (j : Nat) (v : Value), cs[j]? = some v → F g j v) : RepS F (.ref (ls.map litS)) (.pointer (some ⟨g, 0, none⟩)) := by
  subst hc
  refine .ref _ _ _ (fun j => ((ls.map litV)[j]?).getD undef) (fun j hj => ?_) (fun j x hx => ?_) (fun j x hx => ?_)
  · simp only [List.length_map] at hj
    rw [Nat.zero_add]
    exact hF j _ (by simp [hj])
  · rw [List.getElem?_map] at hx
    obtain ⟨l, _, rfl⟩ := Option.map_eq_some_iff.1 hx
    exact litS_one l
  · rw [List.getElem?_map] at hx
    obtain ⟨l, hl, rfl⟩ := Option.map_eq_some_iff.1 hx
    simp only [List.getElem?_map, hl, Option.map_some, Option.getD_some]
    exact litS_rep F l

theorem lits_of_array {H : Type} {enc : TypeId × Value → H} {P : Program} {w : World} {base : Nat} {sp : Nat → Bool} {held : Bool} {fuel : Nat} {t e : TypeId} {n : Nat} {cs : List Value} {ls : List Lit} {p : List MemPlace}
    (ht : P.underlying t = some (.array n e)) (hce : P.cellsOf e = 1) (hct : P.cellsOf t = n)
    (h : DataW.trod enc P w base sp held fuel t cs = some (.agg (ls.map .lit), p)) : cs = ls.map litV := by
  obtain ⟨xs, m, rfl, hx, hl, hn, hel⟩ := DataW.trod_array ht h
  simp only [Prod.mk.injEq, DataW.agg.injEq] at hx
  rw [hct] at hl
  have hls : ls.length = n := by have := congrArg List.length hx.1; simp at this; omega
  apply List.ext_getElem?
  intro i
  by_cases hi : i < n
  · have hE := hel i hi
    rw [hce, Nat.mul_one, List.getElem?_eq_getElem (by omega : i < xs.length)] at hE
    have e1 : (xs.map (·.1))[i]? = some (.lit ls[i]) := by rw [← hx.1]; simp [hls, hi]
    rw [List.getElem?_map, List.getElem?_eq_getElem (by omega : i < xs.length)] at e1
    simp only [Option.map_some, Option.some.injEq] at e1
    have hE2 : DataW.trod enc P w base sp held m e ((cs.drop i).take 1) = some (.lit ls[i], xs[i].2) := by rw [hE]; rw [← e1]
    have hc := lit_cells hE2
    have h1 := congrArg (·[0]?) hc
    simp only [List.getElem?_take, List.getElem?_drop] at h1
    simp at h1
    simp [h1, hls, hi]
  · rw [List.getElem?_eq_none (by omega), List.getElem?_eq_none (by simp; omega)]

theorem lits_of_struct {H : Type} {enc : TypeId × Value → H} {P : Program} {w : World} {base : Nat} {sp : Nat → Bool} {held : Bool} {fuel : Nat} {t : TypeId} {fs : Array Field} {cs : List Value} {ls : List Lit} {p : List MemPlace}
    (ht : P.underlying t = some (.struct fs)) (hf : ∀ (i : Nat) (f : Field), fs[i]? = some f → f.offset = i ∧ P.cellsOf f.type = 1) (hct : P.cellsOf t = fs.size)
    (h : DataW.trod enc P w base sp held fuel t cs = some (.agg (ls.map .lit), p)) : cs = ls.map litV := by
  cases fuel with
  | zero => simp [DataW.trod] at h
  | succ m =>
    simp only [DataW.trod, ht] at h
    split at h
    · rename_i hl
      obtain ⟨xs, hm, hx⟩ := Option.map_eq_some_iff.1 h
      simp only [Prod.mk.injEq, DataW.agg.injEq] at hx
      have hxl : xs.length = fs.size := by simpa using mapM_len hm
      have hls : ls.length = fs.size := by have := congrArg List.length hx.1; simp at this; omega
      rw [hct] at hl
      apply List.ext_getElem?
      intro i
      by_cases hi : i < fs.size
      · obtain ⟨b, hb, hfb⟩ := mapM_at' hm i fs[i] (by simp [hi])
        obtain ⟨k1, k2⟩ := hf i fs[i] (by simp [hi])
        rw [k1, k2] at hfb
        have e1 : (xs.map (·.1))[i]? = some (.lit ls[i]) := by rw [hx.1]; simp [hls, hi]
        rw [List.getElem?_map, hb] at e1
        simp only [Option.map_some, Option.some.injEq] at e1
        have hE2 : DataW.trod enc P w base sp held m fs[i].type ((cs.drop i).take 1) = some (.lit ls[i], b.2) := by rw [hfb, ← e1]
        have hc := lit_cells hE2
        have h1 := congrArg (·[0]?) hc
        simp only [List.getElem?_take, List.getElem?_drop] at h1
        simp at h1
        simp [h1, hls, hi]
      · rw [List.getElem?_eq_none (by omega), List.getElem?_eq_none (by simp; omega)]
    · cases h

/-- A slice of plain values, in the variable's one cell. -/
theorem ref_of_slice {enc : TypeId × Value → Unit} {P : Program} {w : World} {base : Nat} {sp : Nat → Bool} {held : Bool} {fuel : Nat} {t e : TypeId} {cs : List Value} {ls : List Lit} {p : List MemPlace} {F : Frz} {g : Nat}
    (ht : P.underlying t = some (.slice e)) (hce : P.cellsOf e = 1) (hls : ls ≠ [])
    (h : DataW.trod enc P w base sp held fuel t cs = some (.slice (ls.map .lit) [], p)) (hw : ∀ b o v, w.cell? ⟨b, o, none⟩ = some v → F b o v) (hF : ∀ (j : Nat) (v : Value), cs[j]? = some v → F g j v) :
    RepS F (.ref [.sl (ls.map litS)]) (.pointer (some ⟨g, 0, none⟩)) := by
  obtain ⟨a, cap, hcs, hcap, hel⟩ := open_row ht hce h
  simp only [List.length_map] at hcs hcap
  have hE : ∀ (i : Nat) (l : Lit), ls[i]? = some l → w.cell? (a.add i) = some (litV l) := by
    intro i l hl
    obtain ⟨v, n, q, h1, h2⟩ := hel i (.lit l) (by simp [hl])
    have h3 := lit_cells h2
    simp only [List.cons.injEq, and_true] at h3
    rw [h1, h3]
  have hpos : 0 < ls.length := by cases ls with | nil => exact absurd rfl hls | cons _ _ => simp
  have hn : a.spot = none := by
    have := World.cell?_spot (hE 0 ls[0] (by simp [hpos]))
    simpa [Addr.add] using this
  obtain ⟨b, o, sp1⟩ := a
  simp only at hn
  subst hn
  have hadd : ∀ i, (Addr.add ⟨b, o, none⟩ i) = ⟨b, o + i, none⟩ := by intro i; unfold Addr.add; split <;> simp_all
  refine .ref _ _ _ (fun j => (cs[j]?).getD undef) (fun j hj => ?_) (fun j x hx => ?_) (fun j x hx => ?_)
  · simp only [List.length_singleton] at hj
    obtain rfl : j = 0 := by omega
    exact hF 0 _ (by simp [hcs])
  · cases j with
    | zero => simp at hx; subst hx; rfl
    | succ j => simp at hx
  · cases j with
    | succ j => simp at hx
    | zero =>
      simp at hx; subst hx
      simp only [hcs, List.getElem?_cons_zero, Option.getD_some]
      have hfl : flat (ls.map litS) = ls.map litS := by
        clear hcs hcap hel hE hpos h hls
        induction ls with
        | nil => rfl
        | cons l ls ih => simp only [List.map_cons, flat_cons, litS_cells, ih]; rfl
      rw [show ls.length = (ls.map litS).length from by simp]
      refine .sl (ls.map litS) b o cap 1 (fun j => ((ls.map litV)[j]?).getD undef) (by omega) (by simp [hls]) (by simpa using hcap) (fun x hx => ?_) (fun j hj => ?_) (fun j x hx => ?_) (fun j x hx => ?_)
      · obtain ⟨l, _, rfl⟩ := List.mem_map.1 hx
        rw [litS_cells]; rfl
      · simp only [List.length_map, Nat.mul_one] at hj
        have := hE j ls[j] (by simp [hj])
        rw [hadd] at this
        exact hw _ _ _ (by simp [hj, this])
      · rw [hfl, List.getElem?_map] at hx
        obtain ⟨l, _, rfl⟩ := Option.map_eq_some_iff.1 hx
        exact litS_one l
      · rw [hfl, List.getElem?_map] at hx
        obtain ⟨l, hl, rfl⟩ := Option.map_eq_some_iff.1 hx
        simp only [List.getElem?_map, hl, Option.map_some, Option.getD_some]
        exact litS_rep F l

end Go.Ev
