/- For all rows FnCryptoBack returns true, and its argument reads behind the call as before. Condition: the listed package-level variables hold what the program's text lays (the card ties them). -/
import Derived.Test.YtgeaomghbiamgaaGreatDoorQJ6
import Derived.Test.YtgeaomghbiamgaaGreatDoorCax
import Derived.Test.YtgeaomghbiamgaaGreatDoorCay
import Derived.Below
import Derived.Carry
import Derived.Test.YtgeaomghbiamgaaGreatDoorTie
import Derived.Test.YtgeaomghbiamgaaGreatDoorCards
import Derived.ProofKit
import Derived.OpenShut
import Derived.LaidMore
import Derived.Lay
import Derived.SevenTiedAt
import Derived.Stop.Joined
set_option linter.unusedSimpArgs false
set_option linter.unusedVariables false
namespace Go.Proofs.YtgeaomghbiamgaaGreatDoor
open Go.ChangeShapes Go.WideShapes Go.ChangeAt Go.RowKit Go.Ev

theorem call6 (us : Array Value) (w : World) : (callFunc 6 us).run Tryz.prog w = .ok (.enter 6 us) w := by
  simp [callFunc, Tryz.func6, show (Tryz.f6.name == "runtime.NumGoroutine") = false by kernel_rfl, show Tryz.f6.name ≠ "runtime.NumGoroutine" from of_decide_eq_true (by kernel_rfl), Tryz.f6]

/-- What the call comes to, whatever the rows. -/
theorem run6 (W : World) (hL : laidMetH Tryz.prog laid15 W) (v : Value) (l : List RowD) (hr : RepS (allC W) (.sl (rowsSV l)) v) (hn : ∀ r ∈ l, ∀ n ∈ r.N, n < 18446744073709551616) : Calls Tryz.prog 6 #[v] W fun e W' => e = .returned (.bool true) ∧ Below W.heap.size W W' := by
  have hp : PureFn Tryz.prog E0 6 F1003 := pu5006
  have hF : F1003 [.sl (rowsSV l)] = some (.sv (.bool true)) := by
    unfold F1003
    simp only [unrows]
    exact onlyIf_pos ⟨trivial, hn⟩
  have h := hp [.sl (rowsSV l)] (.sv (.bool true)) hF (allC W) W #[v] (glob_ok hL) (fun _ _ _ h => h) rfl (fun j x hx => by
    cases j with
    | zero => simp at hx; subst hx; simpa using hr
    | succ j => simp at hx)
  rcases h with ⟨v, w', h1, _⟩ | ⟨g, xs, h1, h2⟩
  · rw [call6] at h1
    simp at h1
  · rw [call6] at h1
    simp at h1
    obtain ⟨rfl, rfl⟩ := h1
    refine h2.mono ?_
    rintro e w' ⟨v, rfl, γ', hfr, hrep⟩
    have hv : RepS γ'.F (.bool true) v := hrep.sv_inv
    cases hv
    exact ⟨rfl, hfr.os, hfr.tape, hfr.output, hfr.size, hfr.blk⟩

theorem laidOut : laidOutB Tryz.prog = true := by kernel_rfl

set_option maxRecDepth 100000 in
theorem lifted (os : Os) (started : os.Started) (H : Type) (enc : TypeId × Value → H) :
    ReturnsInHanded {} Tryz.checked os 6 .any (fun w args => (Rows.fnCryptoBackSpec.pre enc Tryz.prog Tryz.f6 Rows.fnCryptoBackRow.domain false w args ∧ laidMetH Tryz.prog laid15 w) ∧ sizedMet enc Tryz.prog Tryz.f6 (OpenSpec.ofChange Rows.fnCryptoBackSpec) false w args)
      (Rows.fnCryptoBackSpec.post enc Tryz.prog Tryz.f6 false true false false) := by
  refine returnsInHanded_of_change_and (C := Tryz.checked) (X := fun w _ => laidMetH Tryz.prog laid15 w) (fun _ _ _ hh h => h.of_heap hh) own started (by kernel_rfl) Tryz.func6
    (ChangeSpec.witness_shaped (enc := enc) (C := Tryz.checked) (os := os) (X := fun w _ => laidMetH Tryz.prog laid15 w) false (World.laidAll Tryz.prog os laid15) #[.slice none 0 0] 8 (World.laidAll_os _ _ _)
      (World.shaped_of_ZipB (by kernel_rfl) (by kernel_rfl)) (by kernel_rfl) (by kernel_rfl) (by kernel_rfl)
      (by rw [MakeChecks.laidMetH_plain _ _ _ (by kernel_rfl)]; exact laidMet_laidAll _ (by kernel_rfl) (by kernel_rfl))) ?_
  intro W base args ds gs before hval0 hW hc _ hL _
  have hval : ∀ (j : Nat) t v, Tryz.f6.params[j]? = some t → args[j]? = some v → Value.okWide Tryz.prog W .any base t v := hval0
  have hW' := hW
  obtain ⟨p, q, hA0, hV, rfl, _, _⟩ := hW
  have hA : DataW.TrodAll enc Tryz.prog W 0 (fun _ => true) true Tryz.f6.params.toList args.toList ds p := hA0
  rw [Tryz.params6] at hA hval
  obtain ⟨v0, d0, rfl, rfl, h0⟩ := trodAll_one hA
  obtain ⟨rfl, rfl⟩ := trodVars_none hV
  simp only [List.append_nil] at hW'
  obtain ⟨a0, len, cap, rfl⟩ := okWide_slice Tryz.underlying22 (hval 0 22 v0 rfl rfl)
  obtain ⟨fuel, hf⟩ := h0
  have h0' : DataW.Trod enc Tryz.prog W 0 (fun _ => true) true 22 (.slice a0 len cap) d0 p := ⟨fuel, hf⟩
  have hrows : ∃ l : List RowD, RepS (allC W) (.sl (rowsSV l)) (.slice a0 len cap) ∧ ∀ r ∈ l, ∀ n ∈ r.N, n < 18446744073709551616 := by
    rcases DataW.trod_slice Tryz.underlying22 hf with ⟨hcs, _⟩ | ⟨a, len', cap', elems, rest, n, _, hcs, _, _, hl, _, hlen, hel, _, _⟩
    · simp [Value.cells] at hcs
      obtain ⟨rfl, rfl, rfl⟩ := hcs
      exact ⟨[], .slE _ _, by simp⟩
    · simp [Value.cells] at hcs
      obtain ⟨rfl, rfl, rfl⟩ := hcs
      have hc3 : Tryz.prog.cellsOf 35 = 3 := by kernel_rfl
      rw [hc3] at hel
      obtain ⟨l, _, h1, h2⟩ := rep_rows (w := W) (a := a) (base := 0) hl (fun i hi => by
        have := hel i hi
        rw [List.getElem?_eq_getElem (by omega), Option.bind_eq_some_iff] at this
        obtain ⟨cs, k1, k2⟩ := this
        obtain ⟨r, x, y, z, rfl, k3, k4, k5, k6⟩ := rep_row (tu := 39) (te := 9) Tryz.underlying35 rfl rfl rfl rfl rfl rfl (by kernel_rfl) (by kernel_rfl) (by kernel_rfl) hc3 Tryz.underlying9 Tryz.underlying32 Tryz.underlying33 Tryz.underlying39 Tryz.underlying9 (by kernel_rfl) (by kernel_rfl) k2
        exact ⟨r, x, y, z, k1, k3, k4, k5, k6⟩)
      exact ⟨l, h1, h2⟩
  obtain ⟨l, hr, hn⟩ := hrows
  refine (run6 W hL _ l hr hn).mono fun e W' ⟨he, hB⟩ => ?_
  subst he
  have hlt : ∀ x ∈ p, x.block < W.heap.size := fun x hx => hW'.lt x (by simpa using hx)
  refine ⟨_, rfl, _, _, _, [], p, [], hW', ?_, ?_, ?_, hB.frame _, fun h => by cases h⟩
  · exact trodAll_mk1 (shut_bool Tryz.underlying4 true)
  · exact trodAll_mk1 (Below.trod laidOut (by kernel_rfl) (of_decide_eq_true (by kernel_rfl)) h0' hB hlt)
  · rfl

theorem f_holds : Rows.FnCryptoBackSaid :=
  OpenClaim.holds_of_wide 6 Tryz.f6 rfl rfl rfl rfl rfl rfl rfl ⟨rfl, rfl, rfl, rfl, rfl⟩ rfl rfl rfl rfl rfl (by as_aux_lemma => kernel_rfl) Tryz.func6 facts6
    (of_decide_eq_true (by as_aux_lemma => kernel_rfl)) (by unfold Func.isWrapper; first | (rw [if_pos (by decide +kernel)]; kernel_rfl) | (rw [if_neg (by decide +kernel)]; exact ⟨rfl, rfl⟩))
    (fun os started H enc _ => lifted os started H enc)

theorem fnCryptoBack_holds : Rows.FnCryptoBackCardSaid :=
  Claim7.holds_tied_plain_at .later [] _ true _ true f_holds (fun _ h => by cases h) (by as_aux_lemma => kernel_rfl) (fun _ h => by cases h) fnCryptoBack_row_tie rfl ⟨rfl, rfl⟩ (by as_aux_lemma => kernel_rfl) rfl
    (fun f fn hf hfn => by
      obtain rfl : f = 6 := Option.some.inj ((show Tryz.prog.funcNamed "pub-frontispiece/laws.FnCryptoBack" = some 6 by as_aux_lemma => kernel_rfl).symm.trans hf) |>.symm
      obtain rfl : fn = Tryz.f6 := (Option.some.inj (Tryz.func6.symm.trans hfn)).symm
      exact ⟨by as_aux_lemma => kernel_rfl, fun j t ht => by
        rw [Tryz.params6] at ht
        have hm : t ∈ [22] := by simpa using Array.mem_of_getElem? ht
        have hall : ([22].all fun u => !Tryz.prog.wantsStandIn u) = true := by as_aux_lemma => kernel_rfl
        exact (show Tryz.prog.wantsStandIn t = false by simpa using List.all_eq_true.1 hall t hm)⟩)
    (by as_aux_lemma => kernel_rfl)
#print axioms fnCryptoBack_holds

end Go.Proofs.YtgeaomghbiamgaaGreatDoor

