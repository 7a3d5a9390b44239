/- Deferred closures that only look whether there is a panic; a deferred Close: lines printed by a program of this work (quiet.py). -/
/- A function that only looks into a box: what a scanner says of errors. -/
import Derived.Test.YtnpkdihdpgfemaaGreatDoorEvD
import Derived.Test.YtnpkdihdpgfemaaGreatDoorRows
import Derived.Tactics
import Derived.Tactics2
import Derived.Defers
import Derived.Recover
set_option linter.unusedSimpArgs false
set_option linter.unusedVariables false
namespace Go.Ev
open Go.Proofs

theorem quiet86 (args : Array Value) (w : World) : CallsD Tryz.prog 86 args .returning w fun e u' w' => (∃ v, e = .returned v) ∧ u' = .returning ∧ w' = w := by
  refine callsD_of_wpS Tryz.func86 rfl fun c₀ cs hu => ?_
  have hT : Tryz.f86.ntmps ≤ (args ++ Array.replicate (Tryz.f86.ntmps - args.size) undef).size := by simp; omega
  rw [Tryz.ntmps86] at hT ⊢
  generalize (args ++ Array.replicate (_ - args.size) undef) = T at hT
  have h2 : 2 < T.size := by omega
  have h3 : 3 < T.size := by omega
  apply wpS_seq
  apply wpS_region
  simp [wpOpsS, go_sem, recoverD, hu, Exit.thenS, h2, h3]
  refine wpS_cond (t := false) (by simp [Act.eval, h3]) ?_
  simp only [Bool.false_eq_true, if_false]
  refine wpS_of_wp (wp_skip ?_)
  cases c₀
  simp_all [bodyPostS, results, Tryz.results86]

theorem quiet147 (args : Array Value) (w : World) : CallsD Tryz.prog 147 args .returning w fun e u' w' => (∃ v, e = .returned v) ∧ u' = .returning ∧ w' = w := by
  refine callsD_of_wpS Tryz.func147 rfl fun c₀ cs hu => ?_
  have hT : Tryz.f147.ntmps ≤ (args ++ Array.replicate (Tryz.f147.ntmps - args.size) undef).size := by simp; omega
  rw [Tryz.ntmps147] at hT ⊢
  generalize (args ++ Array.replicate (_ - args.size) undef) = T at hT
  have h2 : 2 < T.size := by omega
  have h3 : 3 < T.size := by omega
  apply wpS_seq
  apply wpS_region
  simp [wpOpsS, go_sem, recoverD, hu, Exit.thenS, h2, h3]
  refine wpS_cond (t := false) (by simp [Act.eval, h3]) ?_
  simp only [Bool.false_eq_true, if_false]
  refine wpS_of_wp (wp_skip ?_)
  cases c₀
  simp_all [bodyPostS, results, Tryz.results147]

theorem quiet100 (args : Array Value) (w : World) : CallsD Tryz.prog 100 args .returning w fun e u' w' => (∃ v, e = .returned v) ∧ u' = .returning ∧ w' = w := by
  refine callsD_of_wpS Tryz.func100 rfl fun c₀ cs hu => ?_
  have hT : Tryz.f100.ntmps ≤ (args ++ Array.replicate (Tryz.f100.ntmps - args.size) undef).size := by simp; omega
  rw [Tryz.ntmps100] at hT ⊢
  generalize (args ++ Array.replicate (_ - args.size) undef) = T at hT
  have h2 : 2 < T.size := by omega
  have h3 : 3 < T.size := by omega
  apply wpS_seq
  apply wpS_region
  simp [wpOpsS, go_sem, recoverD, hu, Exit.thenS, h2, h3]
  refine wpS_cond (t := false) (by simp [Act.eval, h3]) ?_
  simp only [Bool.false_eq_true, if_false]
  refine wpS_of_wp (wp_skip ?_)
  cases c₀
  simp_all [bodyPostS, results, Tryz.results100]

theorem quiet117 (args : Array Value) (w : World) : CallsD Tryz.prog 117 args .returning w fun e u' w' => (∃ v, e = .returned v) ∧ u' = .returning ∧ w' = w := by
  refine callsD_of_wpS Tryz.func117 rfl fun c₀ cs hu => ?_
  have hT : Tryz.f117.ntmps ≤ (args ++ Array.replicate (Tryz.f117.ntmps - args.size) undef).size := by simp; omega
  rw [Tryz.ntmps117] at hT ⊢
  generalize (args ++ Array.replicate (_ - args.size) undef) = T at hT
  have h2 : 2 < T.size := by omega
  have h3 : 3 < T.size := by omega
  apply wpS_seq
  apply wpS_region
  simp [wpOpsS, go_sem, recoverD, hu, Exit.thenS, h2, h3]
  refine wpS_cond (t := false) (by simp [Act.eval, h3]) ?_
  simp only [Bool.false_eq_true, if_false]
  refine wpS_of_wp (wp_skip ?_)
  cases c₀
  simp_all [bodyPostS, results, Tryz.results117]

theorem quiet127 (args : Array Value) (w : World) : CallsD Tryz.prog 127 args .returning w fun e u' w' => (∃ v, e = .returned v) ∧ u' = .returning ∧ w' = w := by
  refine callsD_of_wpS Tryz.func127 rfl fun c₀ cs hu => ?_
  have hT : Tryz.f127.ntmps ≤ (args ++ Array.replicate (Tryz.f127.ntmps - args.size) undef).size := by simp; omega
  rw [Tryz.ntmps127] at hT ⊢
  generalize (args ++ Array.replicate (_ - args.size) undef) = T at hT
  have h2 : 2 < T.size := by omega
  have h3 : 3 < T.size := by omega
  apply wpS_seq
  apply wpS_region
  simp [wpOpsS, go_sem, recoverD, hu, Exit.thenS, h2, h3]
  refine wpS_cond (t := false) (by simp [Act.eval, h3]) ?_
  simp only [Bool.false_eq_true, if_false]
  refine wpS_of_wp (wp_skip ?_)
  cases c₀
  simp_all [bodyPostS, results, Tryz.results127]

theorem quiet89 (args : Array Value) (w : World) : CallsD Tryz.prog 89 args .returning w fun e u' w' => (∃ v, e = .returned v) ∧ u' = .returning ∧ w' = w := by
  refine callsD_of_wpS Tryz.func89 rfl fun c₀ cs hu => ?_
  have hT : Tryz.f89.ntmps ≤ (args ++ Array.replicate (Tryz.f89.ntmps - args.size) undef).size := by simp; omega
  rw [Tryz.ntmps89] at hT ⊢
  generalize (args ++ Array.replicate (_ - args.size) undef) = T at hT
  have h2 : 2 < T.size := by omega
  apply wpS_seq
  apply wpS_region
  simp [wpOpsS, go_sem, recoverD, hu, Exit.thenS, h2]
  apply wpS_seq
  apply wpS_region
  simp [wpOpsS, go_sem, recoverD, hu, Exit.thenS, h2]
  refine wpS_of_wp ?_
  cases c₀
  simp_all [bodyPostS, results, Tryz.results89, wp_ret]

/-- The functions that only look whether there is a panic when they are deferred. -/
def quietT (f : Nat) : Bool := [89, 86, 147, 100, 117, 127].contains f

theorem quiet_ok (E : Env) (hE : E.quiet = quietT) : QuietOK Tryz.prog E := by
  intro f hf args w
  rw [hE] at hf
  simp only [quietT, List.contains_eq_mem, List.mem_cons, List.not_mem_nil, or_false, decide_eq_true_eq] at hf
  rcases hf with rfl | rfl | rfl | rfl | rfl | rfl
  · exact ⟨by simp [callFunc, Tryz.func89, show (Tryz.f89.name == "runtime.NumGoroutine") = false by kernel_rfl, show Tryz.f89.name ≠ "runtime.NumGoroutine" from of_decide_eq_true (by kernel_rfl), Tryz.f89], quiet89 args w⟩
  · exact ⟨by simp [callFunc, Tryz.func86, show (Tryz.f86.name == "runtime.NumGoroutine") = false by kernel_rfl, show Tryz.f86.name ≠ "runtime.NumGoroutine" from of_decide_eq_true (by kernel_rfl), Tryz.f86], quiet86 args w⟩
  · exact ⟨by simp [callFunc, Tryz.func147, show (Tryz.f147.name == "runtime.NumGoroutine") = false by kernel_rfl, show Tryz.f147.name ≠ "runtime.NumGoroutine" from of_decide_eq_true (by kernel_rfl), Tryz.f147], quiet147 args w⟩
  · exact ⟨by simp [callFunc, Tryz.func100, show (Tryz.f100.name == "runtime.NumGoroutine") = false by kernel_rfl, show Tryz.f100.name ≠ "runtime.NumGoroutine" from of_decide_eq_true (by kernel_rfl), Tryz.f100], quiet100 args w⟩
  · exact ⟨by simp [callFunc, Tryz.func117, show (Tryz.f117.name == "runtime.NumGoroutine") = false by kernel_rfl, show Tryz.f117.name ≠ "runtime.NumGoroutine" from of_decide_eq_true (by kernel_rfl), Tryz.f117], quiet117 args w⟩
  · exact ⟨by simp [callFunc, Tryz.func127, show (Tryz.f127.name == "runtime.NumGoroutine") = false by kernel_rfl, show Tryz.f127.name ≠ "runtime.NumGoroutine" from of_decide_eq_true (by kernel_rfl), Tryz.f127], quiet127 args w⟩

end Go.Ev

set_option linter.unusedSimpArgs false
set_option linter.unusedVariables false
namespace Go.Ev
open Go.Proofs

def wpOpsL (P : Program) (ops : Array Oper) (Q : Exit → Act → World → Prop) : List Nat → Act → World → Prop
  | [], a, w => Q .normal a w
  | i :: rest, a, w =>
    match ops[i]? with
    | none => wpOpsL P ops Q rest a w
    | some o => if Region.wanted o (yielded ops a.tmps) then o.wp P a w (wpOpsL P ops Q rest) Q else wpOpsL P ops Q rest (a.put o.dst undef) w

theorem wpOpsL_ok {P : Program} {ops : Array Oper} {Q : Exit → Act → World → Prop} : ∀ (l : List Nat) (a : Act) (w : World), wpOpsL P ops Q l a w → wpOps P ops Q l a w
  | [], _, _, h => h
  | i :: rest, a, w, h => by
    unfold wpOpsL at h
    unfold wpOps
    split at h
    · rename_i e; rw [e]; exact wpOpsL_ok rest a w h
    · rename_i o e
      rw [e]
      simp only
      split at h
      · rename_i hw; rw [if_pos hw]; exact .inl (Oper.wp_mono (fun a w => wpOpsL_ok rest a w) h)
      · rename_i hw; rw [if_neg hw]; exact wpOpsL_ok rest _ w h

theorem lookErr (b : Nat) (w : World) (u : Value) (hu : w.cell? ⟨b, 3, none⟩ = some u) (us : Array Value) (hs : us.size = 1) (h0 : us.getD 0 undef = .pointer (some ⟨b, 0, none⟩)) :
    Calls Tryz.prog 96 us w fun e w' => ∃ v, e = .returned v ∧ v = u ∧ w' = w := by
  obtain ⟨x, rfl⟩ : ∃ x, us = #[x] := by
    refine ⟨us.getD 0 undef, ?_⟩
    apply Array.ext (by simp [hs])
    intro i h1 h2
    have : i = 0 := by omega
    subst this
    simp [Array.getD, hs]
  simp at h0
  subst h0
  refine calls_of_wp Tryz.func96 rfl ?_
  apply wp_seq
  apply wp_region
  apply wpOpsL_ok
  simp [wpOpsL, go_sem, Exit.then]
  apply wp_seq
  apply wp_region
  apply wpOpsL_ok
  simp [wpOpsL, go_sem, Exit.then, hu]
  refine wp_ret ?_
  simp [bodyPost, results, Tryz.results96]

end Go.Ev
