/- Slabs: the laws. -/
/- Entries of slabs. -/
import Derived.Test.YtnpkdihdpgfemaaGreatDoorTB
import Derived.Test.YtnpkdihdpgfemaaGreatDoorUB
import Derived.Test.YtnpkdihdpgfemaaGreatDoorXC
import Derived.Test.YtnpkdihdpgfemaaGreatDoorPA
set_option linter.unusedSimpArgs false
set_option linter.unusedVariables false
namespace Go.Ev
open Go.Proofs

theorem ev9_sl (E : Env) (h : E.code 22 = some c9) (hR : Has E 26 SlReadS) (hT : Has E 24 SlTreeS) (hD : Has E 25 SDoorSl) (h25 : E.pure 36 = some F25) (h26 : E.pure 37 = some F26) (h27 : E.pure 38 = some F27) (s : List UInt8) (n : Nat) :
    evP E n 22 [.str s, .fn 26 [] [], .fn 24 [] [], .fn 25 [] []] = some (.sv (.bool true)) := by
  obtain ⟨FR, hpR, hFR⟩ := hR
  obtain ⟨FT, hpT, hFT⟩ := hT
  obtain ⟨FD, hpD, hFD⟩ := hD
  by_cases hs : 40000 < s.length
  · exact ev9_long E h _ _ _ s hs n
  · rcases hFR s (by omega) with ⟨rs, hf, hok, rfl, hF⟩ | ⟨l, hF⟩
    · exact ev9_yes E h _ _ _ FR FT FD hpR hpT hpD h25 h26 h27 _ (by omega) _ _ (slTree_node rs hf.1) hF (hFT rs hf (List.all_eq_true.2 hok)) (hFD rs hok (by omega)) n
    · exact ev9_opn E h _ _ _ FR hpR h25 s (by omega) l false hF n

theorem ev13_sl (E : Env) (h : E.code 20 = some c13) (hR : Has E 26 SlReadS) (hP : Has E 23 SlPrint) (hD : Has E 25 SDoorSl) (h25 : E.pure 36 = some F25) (h26 : E.pure 37 = some F26) (h27 : E.pure 38 = some F27) (s : List UInt8) (n : Nat) :
    evP E n 20 [.str s, .fn 26 [] [], .fn 23 [] [], .fn 25 [] []] = some (.sv (.bool true)) := by
  obtain ⟨FR, hpR, hFR⟩ := hR
  obtain ⟨FP, hpP, hFP⟩ := hP
  obtain ⟨FD, hpD, hFD⟩ := hD
  by_cases hs : 40000 < s.length
  · exact ev13_long E h _ _ _ s hs n
  · rcases hFR s (by omega) with ⟨rs, hf, hok, rfl, hF⟩ | ⟨l, hF⟩
    · have hp := hFP rs hf
      rw [if_pos (List.all_eq_true.2 hok)] at hp
      exact ev13_yes E h _ _ _ FR FP FD hpR hpP hpD h25 h26 h27 _ (slText rs) (by omega) _ _ (slTree_node rs hf.1) hF hp (hFD rs hok (by omega)) (fun ho => hFD rs hok ho) n
    · exact ev13_opn E h _ _ _ FR hpR h25 s (by omega) l false hF n

theorem ev1016_sl (E : Env) (h : E.code 16 = some c1016) (hP : Has E 23 SlPrint) (hT : Has E 24 SlTreeS) (hD : Has E 25 SDoorSl) (h25 : E.pure 36 = some F25) (h26 : E.pure 37 = some F26) (h27 : E.pure 38 = some F27) (l : List RowD) (hz : zzRows l = true) (hn : ∀ r ∈ l, ∀ n ∈ r.N, n < 18446744073709551616) (n : Nat) :
    evP E n 16 [.sl (rowsSV l), .fn 23 [] [], .fn 24 [] [], .fn 25 [] []] = some (.sv (.bool true)) := by
  obtain ⟨FP, hpP, hFP⟩ := hP
  obtain ⟨FT, hpT, hFT⟩ := hT
  obtain ⟨FD, hpD, hFD⟩ := hD
  have hrl : (rowsSV l).length = l.length := by simp [rowsSV]
  by_cases hl : 1000 < l.length
  · exact ev1016_long E h _ _ _ _ (by omega) n
  · have hf := zzRows_fit hz hn (by omega)
    have hF := hFP l hf
    cases hx : l.all slOk with
    | false =>
      rw [if_neg (by simp [hx])] at hF
      exact ev1016_open E h _ _ _ FP hpP h25 _ (by omega) [] 2 hF (.inl (by decide)) n
    | true =>
      rw [if_pos hx] at hF
      by_cases ho : 40000 < (slText l).length
      · exact ev1016_open E h _ _ _ FP hpP h25 _ (by omega) (slText l) 1 hF (.inr ho) n
      · exact ev1016_yes E h _ _ _ FP FT FD hpP hpT hpD h25 h26 h27 _ (by omega) (slText l) (by omega) (slTree l) (slTree_node l hf.1) hF (hFT l hf hx) (hFD l (List.all_eq_true.1 hx) (by omega)) n

def S9l (F : List SV → Option AV) : Prop := ∀ s : List UInt8, F [.str s, .fn 26 [] [], .fn 24 [] [], .fn 25 [] []] = some (.sv (.bool true))

theorem ev9l (E : Env) (h : E.code 22 = some c9) (h1 : Has E 26 SlReadS) (h2 : Has E 24 SlTreeS) (h3 : Has E 25 SDoorSl) (h25 : E.pure 36 = some F25) (h26 : E.pure 37 = some F26) (h27 : E.pure 38 = some F27) : S9l (autoF E 22) := fun s =>
  autoF_sv (ev9_sl E h h1 h2 h3 h25 h26 h27 s 1) rfl

def S13l (F : List SV → Option AV) : Prop := ∀ s : List UInt8, F [.str s, .fn 26 [] [], .fn 23 [] [], .fn 25 [] []] = some (.sv (.bool true))

theorem ev13l (E : Env) (h : E.code 20 = some c13) (h1 : Has E 26 SlReadS) (h2 : Has E 23 SlPrint) (h3 : Has E 25 SDoorSl) (h25 : E.pure 36 = some F25) (h26 : E.pure 37 = some F26) (h27 : E.pure 38 = some F27) : S13l (autoF E 20) := fun s =>
  autoF_sv (ev13_sl E h h1 h2 h3 h25 h26 h27 s 1) rfl

def S1016l (F : List SV → Option AV) : Prop := ∀ l : List RowD, zzRows l = true → (∀ r ∈ l, ∀ n ∈ r.N, n < 18446744073709551616) → F [.sl (rowsSV l), .fn 23 [] [], .fn 24 [] [], .fn 25 [] []] = some (.sv (.bool true))

theorem ev1016l (E : Env) (h : E.code 16 = some c1016) (h1 : Has E 23 SlPrint) (h2 : Has E 24 SlTreeS) (h3 : Has E 25 SDoorSl) (h25 : E.pure 36 = some F25) (h26 : E.pure 37 = some F26) (h27 : E.pure 38 = some F27) : S1016l (autoF E 16) := fun l hz hn =>
  autoF_sv (ev1016_sl E h h1 h2 h3 h25 h26 h27 l hz hn 1) rfl

theorem ev1008 (E : Env) (h : E.code 8 = some c1008) (h9 : Has E 22 S9l) (s : List UInt8) (n : Nat) : evP E n 8 [.str s] = some (.sv (.bool true)) := by
  obtain ⟨F, hp, hF⟩ := h9
  have hF1 := hF s
  unfold evP
  simp only [h]
  by_cases hs : 2147483647 < s.length
  · have e : (2147483647 : Int) < (s.length : Int) := by omega
    simp [c1008, List.replicate, e]
  · have e : ¬ (2147483647 : Int) < (s.length : Int) := by omega
    simp [c1008, List.replicate, e, hp, hF1]

theorem ev1007 (E : Env) (h : E.code 7 = some c1007) (h13 : Has E 20 S13l) (s : List UInt8) (n : Nat) : evP E n 7 [.str s] = some (.sv (.bool true)) := by
  obtain ⟨F, hp, hF⟩ := h13
  have hF1 := hF s
  unfold evP
  simp only [h]
  by_cases hs : 2147483647 < s.length
  · have e : (2147483647 : Int) < (s.length : Int) := by omega
    simp [c1007, List.replicate, e]
  · have e : ¬ (2147483647 : Int) < (s.length : Int) := by omega
    simp [c1007, List.replicate, e, hp, hF1]

theorem ev1006 (E : Env) (h : E.code 6 = some c1006) (h15 : E.pure 15 = some F1015) (h16 : Has E 16 S1016l) (l : List RowD) (hn : ∀ r ∈ l, ∀ n ∈ r.N, n < 18446744073709551616) (n : Nat) : evP E n 6 [.sl (rowsSV l)] = some (.sv (.bool true)) := by
  obtain ⟨G, hp, hG⟩ := h16
  unfold evP
  simp only [h]
  have hF := F1015_eq l
  cases hz : zzRows l with
  | false => rw [hz] at hF; simp [c1006, List.replicate, h15, hF]
  | true =>
    rw [hz] at hF
    have hF2 := hG l hz hn
    simp [c1006, List.replicate, h15, hF, hp, hF2]

end Go.Ev

set_option linter.unusedSimpArgs false
set_option linter.unusedVariables false
namespace Go.Ev
open Go.Proofs
variable {P : Program} {E : Env}

/-- A law of one text. -/
theorem ptOf (B : Base P E) {f : Nat} (h : ∀ s n, evP E n f [.str s] = some (.sv (.bool true))) : PureFn P E f F8x := by
  refine PureFn.of B.m B.T B.Q B.P fun vs r hF => ?_
  unfold F8x at hF
  split at hF
  · rename_i s
    simp only [Option.some.injEq] at hF; subst hF
    exact ⟨1, _, h s 1, .inl rfl⟩
  · cases hF

/-- A law of rows. -/
theorem pbOf (B : Base P E) {f : Nat} (h : ∀ l : List RowD, (∀ r ∈ l, ∀ n ∈ r.N, n < 18446744073709551616) → ∀ n, evP E n f [.sl (rowsSV l)] = some (.sv (.bool true))) : PureFn P E f F1003 := by
  refine PureFn.of B.m B.T B.Q B.P fun vs r hF => ?_
  unfold F1003 at hF
  split at hF
  · rename_i l
    obtain ⟨⟨h1, h2⟩, hr⟩ := onlyIf_some hF
    simp only [Option.some.injEq] at hr; subst hr
    refine ⟨1, _, ?_, .inl rfl⟩
    have := h (l.map unrow) h2 1
    rw [← h1] at this
    exact this
  · cases hF

end Go.Ev
