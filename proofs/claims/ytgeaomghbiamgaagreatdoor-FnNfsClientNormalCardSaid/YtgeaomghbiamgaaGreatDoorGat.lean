/- Wireless interfaces: what is fine, what is written, what is read (plain). -/
/- The three laws of any form, out of what its functions answer. -/
/- Wireless interfaces: the trees (plain). -/
/- Parts of a text, padding, hexadecimal numbers: the reference's functions. -/
/- Wireless interfaces: the reference's check and its printing. -/
/- Wireless interfaces: the reference's tree. -/
import Derived.Test.YtgeaomghbiamgaaGreatDoorGas
import Derived.Test.YtgeaomghbiamgaaGreatDoorGai
import Derived.Test.YtgeaomghbiamgaaGreatDoorGar
set_option linter.unusedSimpArgs false
set_option linter.unusedVariables false
namespace Go.Ev
open Go.Proofs

def chP (c : UInt8) : Prop := c.toNat ≠ 10 ∧ plainC c = true

theorem chP_app {x y : List UInt8} (hx : ∀ c ∈ x, chP c) (hy : ∀ c ∈ y, chP c) : ∀ c ∈ x ++ y, chP c := fun c hc => by
  rcases List.mem_append.1 hc with hc | hc
  · exact hx c hc
  · exact hy c hc

end Go.Ev

set_option linter.unusedSimpArgs false
set_option linter.unusedVariables false
namespace Go.Ev
open Go.Proofs

section
variable (rd : List UInt8 → List RowD → Prop) (ok : List RowD → Bool) (txt : List RowD → List UInt8) (tree : List RowD → SV)

/-- The reference reads a text, or leaves it. -/
def SReadG (F : List SV → Option AV) : Prop := ∀ s : List UInt8, s.length ≤ 40000 →
  (∃ rs, rd s rs ∧ rowsFit3 rs ∧ ok rs = true ∧ F [.str s] = some (.sv (.tup [.sl (rowsSV rs), .bool true, .int .i64 1]))) ∨ ∃ l b, F [.str s] = some (.sv (.tup [.sl l, .bool b, .int .i64 2]))
def STreeG (F : List SV → Option AV) : Prop := ∀ rs : List RowD, rowsFit3 rs → ok rs = true → F [.sl (rowsSV rs)] = some (.sv (.tup [tree rs, .int .i64 1]))
def SPrintG (F : List SV → Option AV) : Prop := ∀ rs : List RowD, rowsFit3 rs → F [.sl (rowsSV rs)] = some (.sv (.tup (if ok rs = true then [.str (txt rs), .int .i64 1] else [.str [], .int .i64 2])))
def SDoorG (F : List SV → Option AV) : Prop := ∀ (s : List UInt8) (rs : List RowD), rd s rs → ok rs = true → rowsFit3 rs → s.length ≤ 40000 → F [.str s] = some (.sv (.tup [tree rs, .int .i64 0]))

structure LawG : Prop where
  back : ∀ rs : List RowD, rowsFit3 rs → ok rs = true → rd (txt rs) rs
  node : ∀ rs : List RowD, rowsFit3 rs → ok rs = true → IsNode (tree rs)
end

def S9g (a t d : Nat) (F : List SV → Option AV) : Prop := ∀ s : List UInt8, F [.str s, .fn a [] [], .fn t [] [], .fn d [] []] = some (.sv (.bool true))
def S1016g (a t d : Nat) (F : List SV → Option AV) : Prop := ∀ l : List RowD, zzRows l = true → (∀ r ∈ l, ∀ n ∈ r.N, n < 18446744073709551616) → F [.sl (rowsSV l), .fn a [] [], .fn t [] [], .fn d [] []] = some (.sv (.bool true))

theorem ev9G {rd : List UInt8 → List RowD → Prop} {ok : List RowD → Bool} {txt : List RowD → List UInt8} {tree : List RowD → SV} (L : LawG rd ok txt tree) (E : Env) (h : E.code 16 = some c9) (a t d : Nat) (hR : Has E a (SReadG rd ok)) (hT : Has E t (STreeG ok tree)) (hD : Has E d (SDoorG rd ok tree)) (h25 : E.pure 22 = some F25) (h26 : E.pure 23 = some F26) (h27 : E.pure 24 = some F27) : S9g a t d (autoF E 16) := by
  obtain ⟨FR, hpR, hFR⟩ := hR
  obtain ⟨FT, hpT, hFT⟩ := hT
  obtain ⟨FD, hpD, hFD⟩ := hD
  intro s
  refine autoF_sv (n := 1) ?_ rfl
  by_cases hs : 40000 < s.length
  · exact ev9_long E h _ _ _ s hs 1
  · rcases hFR s (by omega) with ⟨rs, hrd, hf, hok, hF⟩ | ⟨l, b, hF⟩
    · exact ev9_yes E h _ _ _ FR FT FD hpR hpT hpD h25 h26 h27 s (by omega) _ _ (L.node rs hf hok) hF (hFT rs hf hok) (hFD s rs hrd hok hf (by omega)) 1
    · exact ev9_opn E h _ _ _ FR hpR h25 s (by omega) l b hF 1

theorem ev13G {rd : List UInt8 → List RowD → Prop} {ok : List RowD → Bool} {txt : List RowD → List UInt8} {tree : List RowD → SV} (L : LawG rd ok txt tree) (E : Env) (h : E.code 14 = some c13) (a p d : Nat) (hR : Has E a (SReadG rd ok)) (hP : Has E p (SPrintG ok txt)) (hD : Has E d (SDoorG rd ok tree)) (h25 : E.pure 22 = some F25) (h26 : E.pure 23 = some F26) (h27 : E.pure 24 = some F27) : S9g a p d (autoF E 14) := by
  obtain ⟨FR, hpR, hFR⟩ := hR
  obtain ⟨FP, hpP, hFP⟩ := hP
  obtain ⟨FD, hpD, hFD⟩ := hD
  intro s
  refine autoF_sv (n := 1) ?_ rfl
  by_cases hs : 40000 < s.length
  · exact ev13_long E h _ _ _ s hs 1
  · rcases hFR s (by omega) with ⟨rs, hrd, hf, hok, hF⟩ | ⟨l, b, hF⟩
    · have hp := hFP rs hf
      rw [if_pos hok] at hp
      exact ev13_yes E h _ _ _ FR FP FD hpR hpP hpD h25 h26 h27 s (txt rs) (by omega) _ _ (L.node rs hf hok) hF hp (hFD s rs hrd hok hf (by omega)) (fun ho => hFD _ rs (L.back rs hf hok) hok hf ho) 1
    · exact ev13_opn E h _ _ _ FR hpR h25 s (by omega) l b hF 1

theorem ev1016G {rd : List UInt8 → List RowD → Prop} {ok : List RowD → Bool} {txt : List RowD → List UInt8} {tree : List RowD → SV} (L : LawG rd ok txt tree) (E : Env) (h : E.code 10 = some c1016) (p t d : Nat) (hP : Has E p (SPrintG ok txt)) (hT : Has E t (STreeG ok tree)) (hD : Has E d (SDoorG rd ok tree)) (h25 : E.pure 22 = some F25) (h26 : E.pure 23 = some F26) (h27 : E.pure 24 = some F27) : S1016g p t d (autoF E 10) := by
  obtain ⟨FP, hpP, hFP⟩ := hP
  obtain ⟨FT, hpT, hFT⟩ := hT
  obtain ⟨FD, hpD, hFD⟩ := hD
  intro l hz hn
  refine autoF_sv (n := 1) ?_ rfl
  have hrl : (rowsSV l).length = l.length := by simp [rowsSV]
  by_cases hl : 1000 < l.length
  · exact ev1016_long E h _ _ _ _ (by omega) 1
  · have hf := zzRows_fit hz hn (by omega)
    have hF := hFP l hf
    cases hx : ok l with
    | false =>
      rw [if_neg (by simp [hx])] at hF
      exact ev1016_open E h _ _ _ FP hpP h25 _ (by omega) [] 2 hF (.inl (by decide)) 1
    | true =>
      rw [if_pos hx] at hF
      by_cases ho : 40000 < (txt l).length
      · exact ev1016_open E h _ _ _ FP hpP h25 _ (by omega) (txt l) 1 hF (.inr ho) 1
      · exact ev1016_yes E h _ _ _ FP FT FD hpP hpT hpD h25 h26 h27 _ (by omega) (txt l) (by omega) (tree l) (L.node l hf hx) hF (hFT l hf hx) (hFD _ l (L.back l hf hx) hx hf (by omega)) 1

end Go.Ev

set_option linter.unusedSimpArgs false
set_option linter.unusedVariables false
namespace Go.Ev
open Go.Proofs

end Go.Ev

set_option linter.unusedSimpArgs false
set_option linter.unusedVariables false
namespace Go.Ev
open Go.Proofs

/-! ### Parts -/

end Go.Ev

set_option linter.unusedSimpArgs false
set_option linter.unusedVariables false
namespace Go.Ev
open Go.Proofs

theorem addW {a b : List UInt8} (h : a.length + b.length < 4611686018427387904) : binSV .add (.str a) (.str b) = some (.str (a ++ b)) := by
  simp only [binSV, if_pos h]

end Go.Ev

set_option linter.unusedSimpArgs false
set_option linter.unusedVariables false
namespace Go.Ev
open Go.Proofs

def S35w (F : List SV → Option AV) : Prop := ∀ (nm : List UInt8) (u : Int), F [.str nm, .int .u64 u] = some (.sv (nodeV nm 3 false 0 u 0 [] []))

theorem ev35w (E : Env) (h : E.code 50 = some c35) : S35w (autoF E 50) := by
  intro nm u
  refine autoF_sv (n := 1) ?_ rfl
  unfold evP
  simp only [h]
  simp [c35, List.replicate, nodeV]

end Go.Ev
