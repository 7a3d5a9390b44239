/- Deferred closures that only look whether there is a panic; a deferred Close: lines printed by a program of this work (quiet.py). -/
import Derived.Test.YtabmfgoghdokbaaGreatDoorEvD
import Derived.Test.YtabmfgoghdokbaaGreatDoorRows
import Derived.Tactics
import Derived.Tactics2
import Derived.Defers
import Derived.Recover
set_option linter.unusedSimpArgs false
set_option linter.unusedVariables false
namespace Go.Ev
open Go.Proofs

theorem quiet83 (args : Array Value) (w : World) : CallsD Tryz.prog 83 args .returning w fun e u' w' => (∃ v, e = .returned v) ∧ u' = .returning ∧ w' = w := by
  refine callsD_of_wpS Tryz.func83 rfl fun c₀ cs hu => ?_
  have hT : Tryz.f83.ntmps ≤ (args ++ Array.replicate (Tryz.f83.ntmps - args.size) undef).size := by simp; omega
  rw [Tryz.ntmps83] at hT ⊢
  generalize (args ++ Array.replicate (_ - args.size) undef) = T at hT
  have h2 : 2 < T.size := by omega
  have h3 : 3 < T.size := by omega
  apply wpS_seq
  apply wpS_region
  simp [wpOpsS, go_sem, recoverD, hu, Exit.thenS, h2, h3]
  refine wpS_cond (t := false) (by simp [Act.eval, h3]) ?_
  simp only [Bool.false_eq_true, if_false]
  refine wpS_of_wp (wp_skip ?_)
  cases c₀
  simp_all [bodyPostS, results, Tryz.results83]

theorem quiet98 (args : Array Value) (w : World) : CallsD Tryz.prog 98 args .returning w fun e u' w' => (∃ v, e = .returned v) ∧ u' = .returning ∧ w' = w := by
  refine callsD_of_wpS Tryz.func98 rfl fun c₀ cs hu => ?_
  have hT : Tryz.f98.ntmps ≤ (args ++ Array.replicate (Tryz.f98.ntmps - args.size) undef).size := by simp; omega
  rw [Tryz.ntmps98] at hT ⊢
  generalize (args ++ Array.replicate (_ - args.size) undef) = T at hT
  have h2 : 2 < T.size := by omega
  have h3 : 3 < T.size := by omega
  apply wpS_seq
  apply wpS_region
  simp [wpOpsS, go_sem, recoverD, hu, Exit.thenS, h2, h3]
  refine wpS_cond (t := false) (by simp [Act.eval, h3]) ?_
  simp only [Bool.false_eq_true, if_false]
  refine wpS_of_wp (wp_skip ?_)
  cases c₀
  simp_all [bodyPostS, results, Tryz.results98]

theorem quiet113 (args : Array Value) (w : World) : CallsD Tryz.prog 113 args .returning w fun e u' w' => (∃ v, e = .returned v) ∧ u' = .returning ∧ w' = w := by
  refine callsD_of_wpS Tryz.func113 rfl fun c₀ cs hu => ?_
  have hT : Tryz.f113.ntmps ≤ (args ++ Array.replicate (Tryz.f113.ntmps - args.size) undef).size := by simp; omega
  rw [Tryz.ntmps113] at hT ⊢
  generalize (args ++ Array.replicate (_ - args.size) undef) = T at hT
  have h2 : 2 < T.size := by omega
  have h3 : 3 < T.size := by omega
  apply wpS_seq
  apply wpS_region
  simp [wpOpsS, go_sem, recoverD, hu, Exit.thenS, h2, h3]
  refine wpS_cond (t := false) (by simp [Act.eval, h3]) ?_
  simp only [Bool.false_eq_true, if_false]
  refine wpS_of_wp (wp_skip ?_)
  cases c₀
  simp_all [bodyPostS, results, Tryz.results113]

theorem quiet115 (args : Array Value) (w : World) : CallsD Tryz.prog 115 args .returning w fun e u' w' => (∃ v, e = .returned v) ∧ u' = .returning ∧ w' = w := by
  refine callsD_of_wpS Tryz.func115 rfl fun c₀ cs hu => ?_
  have hT : Tryz.f115.ntmps ≤ (args ++ Array.replicate (Tryz.f115.ntmps - args.size) undef).size := by simp; omega
  rw [Tryz.ntmps115] at hT ⊢
  generalize (args ++ Array.replicate (_ - args.size) undef) = T at hT
  have h2 : 2 < T.size := by omega
  have h3 : 3 < T.size := by omega
  apply wpS_seq
  apply wpS_region
  simp [wpOpsS, go_sem, recoverD, hu, Exit.thenS, h2, h3]
  refine wpS_cond (t := false) (by simp [Act.eval, h3]) ?_
  simp only [Bool.false_eq_true, if_false]
  refine wpS_of_wp (wp_skip ?_)
  cases c₀
  simp_all [bodyPostS, results, Tryz.results115]

theorem quiet132 (args : Array Value) (w : World) : CallsD Tryz.prog 132 args .returning w fun e u' w' => (∃ v, e = .returned v) ∧ u' = .returning ∧ w' = w := by
  refine callsD_of_wpS Tryz.func132 rfl fun c₀ cs hu => ?_
  have hT : Tryz.f132.ntmps ≤ (args ++ Array.replicate (Tryz.f132.ntmps - args.size) undef).size := by simp; omega
  rw [Tryz.ntmps132] at hT ⊢
  generalize (args ++ Array.replicate (_ - args.size) undef) = T at hT
  have h2 : 2 < T.size := by omega
  have h3 : 3 < T.size := by omega
  apply wpS_seq
  apply wpS_region
  simp [wpOpsS, go_sem, recoverD, hu, Exit.thenS, h2, h3]
  refine wpS_cond (t := false) (by simp [Act.eval, h3]) ?_
  simp only [Bool.false_eq_true, if_false]
  refine wpS_of_wp (wp_skip ?_)
  cases c₀
  simp_all [bodyPostS, results, Tryz.results132]

theorem quiet86 (args : Array Value) (w : World) : CallsD Tryz.prog 86 args .returning w fun e u' w' => (∃ v, e = .returned v) ∧ u' = .returning ∧ w' = w := by
  refine callsD_of_wpS Tryz.func86 rfl fun c₀ cs hu => ?_
  have hT : Tryz.f86.ntmps ≤ (args ++ Array.replicate (Tryz.f86.ntmps - args.size) undef).size := by simp; omega
  rw [Tryz.ntmps86] at hT ⊢
  generalize (args ++ Array.replicate (_ - args.size) undef) = T at hT
  have h2 : 2 < T.size := by omega
  apply wpS_seq
  apply wpS_region
  simp [wpOpsS, go_sem, recoverD, hu, Exit.thenS, h2]
  apply wpS_seq
  apply wpS_region
  simp [wpOpsS, go_sem, recoverD, hu, Exit.thenS, h2]
  refine wpS_of_wp ?_
  cases c₀
  simp_all [bodyPostS, results, Tryz.results86, wp_ret]

/-- The functions that only look whether there is a panic when they are deferred. -/
def quietT (f : Nat) : Bool := [86, 83, 98, 113, 115, 132].contains f

theorem quiet_ok (E : Env) (hE : E.quiet = quietT) : QuietOK Tryz.prog E := by
  intro f hf args w
  rw [hE] at hf
  simp only [quietT, List.contains_eq_mem, List.mem_cons, List.not_mem_nil, or_false, decide_eq_true_eq] at hf
  rcases hf with rfl | rfl | rfl | rfl | rfl | rfl
  · exact ⟨by simp [callFunc, Tryz.func86, show (Tryz.f86.name == "runtime.NumGoroutine") = false by kernel_rfl, show Tryz.f86.name ≠ "runtime.NumGoroutine" from of_decide_eq_true (by kernel_rfl), Tryz.f86], quiet86 args w⟩
  · exact ⟨by simp [callFunc, Tryz.func83, show (Tryz.f83.name == "runtime.NumGoroutine") = false by kernel_rfl, show Tryz.f83.name ≠ "runtime.NumGoroutine" from of_decide_eq_true (by kernel_rfl), Tryz.f83], quiet83 args w⟩
  · exact ⟨by simp [callFunc, Tryz.func98, show (Tryz.f98.name == "runtime.NumGoroutine") = false by kernel_rfl, show Tryz.f98.name ≠ "runtime.NumGoroutine" from of_decide_eq_true (by kernel_rfl), Tryz.f98], quiet98 args w⟩
  · exact ⟨by simp [callFunc, Tryz.func113, show (Tryz.f113.name == "runtime.NumGoroutine") = false by kernel_rfl, show Tryz.f113.name ≠ "runtime.NumGoroutine" from of_decide_eq_true (by kernel_rfl), Tryz.f113], quiet113 args w⟩
  · exact ⟨by simp [callFunc, Tryz.func115, show (Tryz.f115.name == "runtime.NumGoroutine") = false by kernel_rfl, show Tryz.f115.name ≠ "runtime.NumGoroutine" from of_decide_eq_true (by kernel_rfl), Tryz.f115], quiet115 args w⟩
  · exact ⟨by simp [callFunc, Tryz.func132, show (Tryz.f132.name == "runtime.NumGoroutine") = false by kernel_rfl, show Tryz.f132.name ≠ "runtime.NumGoroutine" from of_decide_eq_true (by kernel_rfl), Tryz.f132], quiet132 args w⟩

end Go.Ev
