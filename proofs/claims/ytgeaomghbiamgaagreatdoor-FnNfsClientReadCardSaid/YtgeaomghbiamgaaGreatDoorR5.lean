/- For every text as /proc/net/rpc/nfs FnNfsClientRead returns true, and its argument reads behind the call as before. Condition: the listed package-level variables hold what the program's text lays (the card ties them). -/
import Derived.Test.YtgeaomghbiamgaaGreatDoorQJ5
import Derived.Test.YtgeaomghbiamgaaGreatDoorGav
import Derived.Test.YtgeaomghbiamgaaGreatDoorGaw
import Derived.Test.YtgeaomghbiamgaaGreatDoorTie
import Derived.Test.YtgeaomghbiamgaaGreatDoorCards
import Derived.ProofKit
import Derived.OpenShut
import Derived.LaidMore
import Derived.Lay
import Derived.SevenTiedAt
import Derived.Stop.Joined
set_option linter.unusedSimpArgs false
set_option linter.unusedVariables false
namespace Go.Proofs.YtgeaomghbiamgaaGreatDoor
open Go.ChangeShapes Go.WideShapes Go.ChangeAt Go.RowKit Go.Ev

theorem kept_of_fresh {γ γ' : Gh} {w w' : World} (h : Fresh γ w γ' w') (may : MemPlace → Prop) : w.keptBut w' may := by
  refine ⟨h.os, h.output, fun i hi => ?_⟩
  rw [h.blk i hi]
  cases w.heap[i]? with
  | none => rfl
  | some o => cases o <;> simp

theorem call5 (us : Array Value) (w : World) : (callFunc 5 us).run Tryz.prog w = .ok (.enter 5 us) w := by
  simp [callFunc, Tryz.func5, show (Tryz.f5.name == "runtime.NumGoroutine") = false by kernel_rfl, show Tryz.f5.name ≠ "runtime.NumGoroutine" from of_decide_eq_true (by kernel_rfl), Tryz.f5]

/-- What the call comes to, whatever the text. -/
theorem run5 (W : World) (hL : laidMetH Tryz.prog laid15 W) (s : ByteArray) : Calls Tryz.prog 5 #[.string s] W fun e W' => e = .returned (.bool true) ∧ ∀ may, W.keptBut W' may := by
  have hp : PureFn Tryz.prog E0 5 F8x := pu5005
  have h := hp [.str s.data.toList] (.sv (.bool true)) rfl (fun b o v => W.cell? ⟨b, o, none⟩ = some v) W #[.string s] (glob_ok hL) (fun _ _ _ h => h) rfl (fun j x hx => by
    cases j with
    | zero =>
      simp at hx; subst hx
      simp
      have : (⟨s.data.toList.toArray⟩ : ByteArray) = s := by simp
      exact this ▸ RepS.str s.data.toList
    | succ j => simp at hx)
  rcases h with ⟨v, w', h1, _⟩ | ⟨g, xs, h1, h2⟩
  · rw [call5] at h1
    simp at h1
  · rw [call5] at h1
    simp at h1
    obtain ⟨rfl, rfl⟩ := h1
    refine h2.mono ?_
    rintro e w' ⟨v, rfl, γ', hfr, hrep⟩
    have hv : RepS γ'.F (.bool true) v := hrep.sv_inv
    cases hv
    exact ⟨rfl, fun may => kept_of_fresh hfr may⟩

set_option maxRecDepth 100000 in
theorem lifted (os : Os) (started : os.Started) (H : Type) (enc : TypeId × Value → H) :
    ReturnsInHanded {} Tryz.checked os 5 .any (fun w args => (Rows.fnNfsClientReadSpec.pre enc Tryz.prog Tryz.f5 Rows.fnNfsClientReadRow.domain false w args ∧ laidMetH Tryz.prog laid15 w) ∧ sizedMet enc Tryz.prog Tryz.f5 (OpenSpec.ofChange Rows.fnNfsClientReadSpec) false w args)
      (Rows.fnNfsClientReadSpec.post enc Tryz.prog Tryz.f5 false true false false) := by
  refine returnsInHanded_of_change_and (C := Tryz.checked) (X := fun w _ => laidMetH Tryz.prog laid15 w) (fun _ _ _ hh h => h.of_heap hh) own started (by kernel_rfl) Tryz.func5
    (ChangeSpec.witness_shaped (enc := enc) (C := Tryz.checked) (os := os) (X := fun w _ => laidMetH Tryz.prog laid15 w) false (World.laidAll Tryz.prog os laid15) #[.string ⟨#[]⟩] 8 (World.laidAll_os _ _ _)
      (World.shaped_of_ZipB (by kernel_rfl) (by kernel_rfl)) (by kernel_rfl) (by kernel_rfl) (by kernel_rfl)
      (by rw [MakeChecks.laidMetH_plain _ _ _ (by kernel_rfl)]; exact laidMet_laidAll _ (by kernel_rfl) (by kernel_rfl))) ?_
  intro W base args ds gs before hval0 hW hc _ hL _
  have hval : ∀ (j : Nat) t v, Tryz.f5.params[j]? = some t → args[j]? = some v → Value.okWide Tryz.prog W .any base t v := hval0
  have hW' := hW
  obtain ⟨p, q, hA0, hV, rfl, _, _⟩ := hW
  have hA : DataW.TrodAll enc Tryz.prog W 0 (fun _ => true) true Tryz.f5.params.toList args.toList ds p := hA0
  rw [Tryz.params5] at hA hval
  obtain ⟨v0, d0, rfl, rfl, h0⟩ := trodAll_one hA
  obtain ⟨rfl, rfl⟩ := trodVars_none hV
  obtain ⟨s, rfl, rfl, rfl, hsz⟩ := ChangeMaps.open_string Tryz.underlying9 (hval 0 9 v0 rfl rfl) h0
  simp only [List.append_nil] at hW'
  refine (run5 W hL s).mono fun e W' ⟨he, hk⟩ => ?_
  subst he
  have hsh : ∀ (W : World) (b : Nat) (sp : Nat → Bool) (hd : Bool), DataW.Trod enc Tryz.prog W b sp hd 9 (.string s) (.lit (.string s.data.toList)) [] := fun W b sp hd => ⟨1, by simp [DataW.trod, Value.cells, Tryz.underlying9, hsz]⟩
  refine ⟨_, rfl, _, _, _, [], [], [], hW', ?_, ?_, ?_, hk _, fun h => by cases h⟩
  · exact trodAll_mk1 (shut_bool Tryz.underlying4 true)
  · exact trodAll_mk1 (hsh _ _ _ _)
  · rfl

theorem f_holds : Rows.FnNfsClientReadSaid :=
  OpenClaim.holds_of_wide 5 Tryz.f5 rfl rfl rfl rfl rfl rfl rfl ⟨rfl, rfl, rfl, rfl, rfl⟩ rfl rfl rfl rfl rfl (by as_aux_lemma => kernel_rfl) Tryz.func5 facts5
    (of_decide_eq_true (by as_aux_lemma => kernel_rfl)) (by unfold Func.isWrapper; first | (rw [if_pos (by decide +kernel)]; kernel_rfl) | (rw [if_neg (by decide +kernel)]; exact ⟨rfl, rfl⟩))
    (fun os started H enc _ => lifted os started H enc)

theorem fnNfsClientRead_holds : Rows.FnNfsClientReadCardSaid :=
  Claim7.holds_tied_plain_at .later [] _ true _ true f_holds (fun _ h => by cases h) (by as_aux_lemma => kernel_rfl) (fun _ h => by cases h) fnNfsClientRead_row_tie rfl ⟨rfl, rfl⟩ (by as_aux_lemma => kernel_rfl) rfl
    (fun f fn hf hfn => by
      obtain rfl : f = 5 := Option.some.inj ((show Tryz.prog.funcNamed "pub-frontispiece/laws.FnNfsClientRead" = some 5 by as_aux_lemma => kernel_rfl).symm.trans hf) |>.symm
      obtain rfl : fn = Tryz.f5 := (Option.some.inj (Tryz.func5.symm.trans hfn)).symm
      exact ⟨by as_aux_lemma => kernel_rfl, fun j t ht => by
        rw [Tryz.params5] at ht
        have hm : t ∈ [9] := by simpa using Array.mem_of_getElem? ht
        have hall : ([9].all fun u => !Tryz.prog.wantsStandIn u) = true := by as_aux_lemma => kernel_rfl
        exact (show Tryz.prog.wantsStandIn t = false by simpa using List.all_eq_true.1 hall t hm)⟩)
    (by as_aux_lemma => kernel_rfl)
#print axioms fnNfsClientRead_holds

end Go.Proofs.YtgeaomghbiamgaaGreatDoor
