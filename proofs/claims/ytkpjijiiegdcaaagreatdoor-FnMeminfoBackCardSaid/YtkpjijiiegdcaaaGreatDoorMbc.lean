/- Tables of sockets: parts of a text, hexadecimal numbers, padding. -/
/- Tables of sockets: what is written, and what the reference reads. -/
/- NFS: what is fine, what is written, the trees (plain; lines printed by a program of this work). -/
/- Wireless interfaces: what is fine, what is written, what is read (plain). -/
/- NFS: the lines of what is written (plain). -/
/- The three laws of any form, out of what its functions answer. -/
/- Wireless interfaces: the trees (plain). -/
/- Parts of a text, padding, hexadecimal numbers: the reference's functions. -/
/- Wireless interfaces: the reference's check and its printing. -/
/- Wireless interfaces: the reference's tree. -/
/- NFS: the reference: groups found, rows found, the check, the printing. -/
import Derived.Test.YtkpjijiiegdcaaaGreatDoorMaz
import Derived.Test.YtkpjijiiegdcaaaGreatDoorMao
import Derived.Test.YtkpjijiiegdcaaaGreatDoorMas
import Derived.Test.YtkpjijiiegdcaaaGreatDoorMar
import Derived.Test.YtkpjijiiegdcaaaGreatDoorMah
import Derived.Test.YtkpjijiiegdcaaaGreatDoorMaq
import Derived.Test.YtkpjijiiegdcaaaGreatDoorMam
set_option linter.unusedSimpArgs false
set_option linter.unusedVariables false
namespace Go.Ev
open Go.Proofs

/-! ### Parts between a sign -/

def partG (b : Nat) (cur : List UInt8) : List UInt8 → List (List UInt8)
  | [] => [cur]
  | c :: cs => if c.toNat = b then cur :: partG b [] cs else partG b (cur ++ [c]) cs

theorem partG_no (b : Nat) : ∀ (w cur rest : List UInt8), (∀ c ∈ w, c.toNat ≠ b) → partG b cur (w ++ rest) = partG b (cur ++ w) rest
  | [], cur, rest, _ => by simp
  | c :: w, cur, rest, h => by
    simp only [List.cons_append, partG]
    rw [if_neg (h c (by simp)), partG_no b w (cur ++ [c]) rest (fun x hx => h x (by simp [hx]))]
    simp

theorem partG_none {b : Nat} {s : List UInt8} (h : ∀ c ∈ s, c.toNat ≠ b) : partG b [] s = [s] := by
  have := partG_no b s [] [] h
  rw [List.append_nil, List.nil_append] at this
  rw [this]; rfl

theorem partG_first {b : UInt8} {w rest : List UInt8} (hw : ∀ c ∈ w, c.toNat ≠ b.toNat) : partG b.toNat [] (w ++ b :: rest) = w :: partG b.toNat [] rest := by
  rw [partG_no _ w [] _ hw, List.nil_append]
  simp only [partG, if_true]

/-! ### Hexadecimal numbers -/

/-- A text with blanks ahead. -/
def rightS (s : List UInt8) (k : Nat) : List UInt8 := List.replicate (k - s.length) 32 ++ s

theorem rightS_step {s : List UInt8} {n : Nat} (h : s.length < n) : rightS (32 :: s) n = rightS s n := by
  unfold rightS
  obtain ⟨k, hk⟩ : ∃ k, n - s.length = k + 1 := ⟨n - s.length - 1, by omega⟩
  rw [hk, show n - (32 :: s : List UInt8).length = k from by simp; omega, List.replicate_succ', List.append_assoc]; rfl

theorem rightS_done {s : List UInt8} {n : Nat} (h : ¬ s.length < n) : rightS s n = s := by
  unfold rightS
  rw [show n - s.length = 0 from by omega]; rfl

theorem rightS_len (s : List UInt8) (n : Nat) : (rightS s n).length ≤ s.length + n := by unfold rightS; rw [List.length_append, List.length_replicate]; omega

def hexN (a : Nat) (s : List UInt8) : Nat := s.foldl (fun a c => a * 16 + digitV c.toNat) a

theorem hexN_nil (a : Nat) : hexN a [] = a := by unfold hexN; rw [List.foldl_nil]
theorem hexN_cons (a : Nat) (c : UInt8) (s : List UInt8) : hexN a (c :: s) = hexN (a * 16 + digitV c.toNat) s := by unfold hexN; rw [List.foldl_cons]
theorem hexN_ge : ∀ (s : List UInt8) (a : Nat), a ≤ hexN a s
  | [], a => by rw [hexN_nil]; exact Nat.le_refl _
  | c :: s, a => by rw [hexN_cons]; have := hexN_ge s (a * 16 + digitV c.toNat); omega

end Go.Ev

set_option linter.unusedSimpArgs false
set_option linter.unusedVariables false
namespace Go.Ev
open Go.Proofs

/-! ### What the reference reads -/

/-! ### What is written is read -/

theorem fieldG_right {w rest : List UInt8} {n : Nat} : fieldG [] (rightS w n ++ rest) = fieldG [] (w ++ rest) := by
  unfold rightS
  rw [List.append_assoc]
  exact fieldG_skip _ _

/-- Two words and a colon between. -/
def two (a b : List UInt8) : List UInt8 := a ++ ([58] ++ b)

end Go.Ev

set_option linter.unusedSimpArgs false
set_option linter.unusedVariables false
namespace Go.Ev
open Go.Proofs

/-- A group of a text: its label, the name of its record, the names of its fields. -/
structure Grp where
  label : List UInt8
  name : List UInt8
  fields : List (List UInt8)

def Grp.sv (g : Grp) : SV := .agg [.str g.label, .str g.name, .sl (strs g.fields)]

end Go.Ev

set_option linter.unusedSimpArgs false
set_option linter.unusedVariables false
namespace Go.Ev
open Go.Proofs

end Go.Ev

set_option linter.unusedSimpArgs false
set_option linter.unusedVariables false
namespace Go.Ev
open Go.Proofs

end Go.Ev

set_option linter.unusedSimpArgs false
set_option linter.unusedVariables false
namespace Go.Ev
open Go.Proofs

section
variable (rd : List UInt8 → List RowD → Prop) (ok : List RowD → Bool) (txt : List RowD → List UInt8) (tree : List RowD → SV)

/-- The reference reads a text, or leaves it. -/
def SReadG (F : List SV → Option AV) : Prop := ∀ s : List UInt8, s.length ≤ 40000 →
  (∃ rs, rd s rs ∧ rowsFit3 rs ∧ ok rs = true ∧ F [.str s] = some (.sv (.tup [.sl (rowsSV rs), .bool true, .int .i64 1]))) ∨ ∃ l b, F [.str s] = some (.sv (.tup [.sl l, .bool b, .int .i64 2]))
def STreeG (F : List SV → Option AV) : Prop := ∀ rs : List RowD, rowsFit3 rs → ok rs = true → F [.sl (rowsSV rs)] = some (.sv (.tup [tree rs, .int .i64 1]))
def SPrintG (F : List SV → Option AV) : Prop := ∀ rs : List RowD, rowsFit3 rs → F [.sl (rowsSV rs)] = some (.sv (.tup (if ok rs = true then [.str (txt rs), .int .i64 1] else [.str [], .int .i64 2])))
def SDoorG (F : List SV → Option AV) : Prop := ∀ (s : List UInt8) (rs : List RowD), rd s rs → ok rs = true → rowsFit3 rs → s.length ≤ 40000 → F [.str s] = some (.sv (.tup [tree rs, .int .i64 0]))

structure LawG : Prop where
  back : ∀ rs : List RowD, rowsFit3 rs → ok rs = true → rd (txt rs) rs
  node : ∀ rs : List RowD, rowsFit3 rs → ok rs = true → IsNode (tree rs)
end

def S9g (a t d : Nat) (F : List SV → Option AV) : Prop := ∀ s : List UInt8, F [.str s, .fn a [] [], .fn t [] [], .fn d [] []] = some (.sv (.bool true))
def S1016g (a t d : Nat) (F : List SV → Option AV) : Prop := ∀ l : List RowD, zzRows l = true → (∀ r ∈ l, ∀ n ∈ r.N, n < 18446744073709551616) → F [.sl (rowsSV l), .fn a [] [], .fn t [] [], .fn d [] []] = some (.sv (.bool true))

theorem ev9G {rd : List UInt8 → List RowD → Prop} {ok : List RowD → Bool} {txt : List RowD → List UInt8} {tree : List RowD → SV} (L : LawG rd ok txt tree) (E : Env) (h : E.code 16 = some c9) (a t d : Nat) (hR : Has E a (SReadG rd ok)) (hT : Has E t (STreeG ok tree)) (hD : Has E d (SDoorG rd ok tree)) (h25 : E.pure 22 = some F25) (h26 : E.pure 23 = some F26) (h27 : E.pure 24 = some F27) : S9g a t d (autoF E 16) := by
  obtain ⟨FR, hpR, hFR⟩ := hR
  obtain ⟨FT, hpT, hFT⟩ := hT
  obtain ⟨FD, hpD, hFD⟩ := hD
  intro s
  refine autoF_sv (n := 1) ?_ rfl
  by_cases hs : 40000 < s.length
  · exact ev9_long E h _ _ _ s hs 1
  · rcases hFR s (by omega) with ⟨rs, hrd, hf, hok, hF⟩ | ⟨l, b, hF⟩
    · exact ev9_yes E h _ _ _ FR FT FD hpR hpT hpD h25 h26 h27 s (by omega) _ _ (L.node rs hf hok) hF (hFT rs hf hok) (hFD s rs hrd hok hf (by omega)) 1
    · exact ev9_opn E h _ _ _ FR hpR h25 s (by omega) l b hF 1

theorem ev13G {rd : List UInt8 → List RowD → Prop} {ok : List RowD → Bool} {txt : List RowD → List UInt8} {tree : List RowD → SV} (L : LawG rd ok txt tree) (E : Env) (h : E.code 14 = some c13) (a p d : Nat) (hR : Has E a (SReadG rd ok)) (hP : Has E p (SPrintG ok txt)) (hD : Has E d (SDoorG rd ok tree)) (h25 : E.pure 22 = some F25) (h26 : E.pure 23 = some F26) (h27 : E.pure 24 = some F27) : S9g a p d (autoF E 14) := by
  obtain ⟨FR, hpR, hFR⟩ := hR
  obtain ⟨FP, hpP, hFP⟩ := hP
  obtain ⟨FD, hpD, hFD⟩ := hD
  intro s
  refine autoF_sv (n := 1) ?_ rfl
  by_cases hs : 40000 < s.length
  · exact ev13_long E h _ _ _ s hs 1
  · rcases hFR s (by omega) with ⟨rs, hrd, hf, hok, hF⟩ | ⟨l, b, hF⟩
    · have hp := hFP rs hf
      rw [if_pos hok] at hp
      exact ev13_yes E h _ _ _ FR FP FD hpR hpP hpD h25 h26 h27 s (txt rs) (by omega) _ _ (L.node rs hf hok) hF hp (hFD s rs hrd hok hf (by omega)) (fun ho => hFD _ rs (L.back rs hf hok) hok hf ho) 1
    · exact ev13_opn E h _ _ _ FR hpR h25 s (by omega) l b hF 1

theorem ev1016G {rd : List UInt8 → List RowD → Prop} {ok : List RowD → Bool} {txt : List RowD → List UInt8} {tree : List RowD → SV} (L : LawG rd ok txt tree) (E : Env) (h : E.code 10 = some c1016) (p t d : Nat) (hP : Has E p (SPrintG ok txt)) (hT : Has E t (STreeG ok tree)) (hD : Has E d (SDoorG rd ok tree)) (h25 : E.pure 22 = some F25) (h26 : E.pure 23 = some F26) (h27 : E.pure 24 = some F27) : S1016g p t d (autoF E 10) := by
  obtain ⟨FP, hpP, hFP⟩ := hP
  obtain ⟨FT, hpT, hFT⟩ := hT
  obtain ⟨FD, hpD, hFD⟩ := hD
  intro l hz hn
  refine autoF_sv (n := 1) ?_ rfl
  have hrl : (rowsSV l).length = l.length := by simp [rowsSV]
  by_cases hl : 1000 < l.length
  · exact ev1016_long E h _ _ _ _ (by omega) 1
  · have hf := zzRows_fit hz hn (by omega)
    have hF := hFP l hf
    cases hx : ok l with
    | false =>
      rw [if_neg (by simp [hx])] at hF
      exact ev1016_open E h _ _ _ FP hpP h25 _ (by omega) [] 2 hF (.inl (by decide)) 1
    | true =>
      rw [if_pos hx] at hF
      by_cases ho : 40000 < (txt l).length
      · exact ev1016_open E h _ _ _ FP hpP h25 _ (by omega) (txt l) 1 hF (.inr ho) 1
      · exact ev1016_yes E h _ _ _ FP FT FD hpP hpT hpD h25 h26 h27 _ (by omega) (txt l) (by omega) (tree l) (L.node l hf hx) hF (hFT l hf hx) (hFD _ l (L.back l hf hx) hx hf (by omega)) 1

end Go.Ev

set_option linter.unusedSimpArgs false
set_option linter.unusedVariables false
namespace Go.Ev
open Go.Proofs

end Go.Ev

set_option linter.unusedSimpArgs false
set_option linter.unusedVariables false
namespace Go.Ev
open Go.Proofs

/-! ### Parts -/

def S46 (F : List SV → Option AV) : Prop := ∀ (s : List UInt8) (n : Nat), n < 1000000 → s.length < 100000000000 → F [.str s, .int .i64 (n : Int)] = some (.sv (.str (rightS s n)))

theorem loop46r (E : Env) (cf : CallF) (m : Nat) (n : Nat) (hn : n < 1000000) :
    ∀ (d : Nat) (s : List UInt8) (k : Nat), n - s.length ≤ d → s.length < 1000000000000 → d < k →
      rounds (evC E cf m b46_0) k { tm := [.sv (.str s), .sv (.int .i64 n)] ++ List.replicate 10 (.sv .undef), lz := none, bx := [], df := [] } =
        some (.exit 0, { tm := [.sv (.str (rightS s n))] ++ List.replicate 11 (.sv .undef), lz := none, bx := [], df := [] }) := by
  intro d
  induction d with
  | zero =>
    intro s k hd hs hk
    obtain ⟨k, rfl⟩ : ∃ k', k = k' + 1 := ⟨k - 1, by omega⟩
    have hlt : ¬ (s.length < n) := by omega
    refine rounds_out ?_ (by simp)
    rw [rightS_done hlt]
    have hltI : ¬ (s.length : Int) < (n : Int) := by omega
    simp [b46_0, List.replicate, hlt, hltI]
  | succ d ih =>
    intro s k hd hs hk
    obtain ⟨k, rfl⟩ : ∃ k', k = k' + 1 := ⟨k - 1, by omega⟩
    by_cases hlt : s.length < n
    · have he := ih (32 :: s) k (by simp; omega) (by simp; omega) (by omega)
      rw [rightS_step hlt] at he
      rw [← he]
      refine rounds_step ?_
      have hltI : (s.length : Int) < (n : Int) := by omega
      have hb : 1 + s.length < 4611686018427387904 := by omega
      simp [b46_0, List.replicate, hlt, hltI, hb]
    · refine rounds_out ?_ (by simp)
      rw [rightS_done hlt]
      have hltI : ¬ (s.length : Int) < (n : Int) := by omega
      simp [b46_0, List.replicate, hlt, hltI]

theorem ev46 (E : Env) (h : E.code 28 = some c46) : S46 (autoF E 28) := by
  intro s n hn hs
  have hl := loop46r E (evF E (n + 1)) (n + 1) n hn n s (n + 1) (by omega) (by omega) (by omega)
  refine autoF_sv (n := n + 1) ?_ rfl
  unfold evP
  simp only [h]
  simp only [List.replicate, List.cons_append, List.nil_append] at hl
  simp [c46, List.replicate, hl]

/-! ### Hexadecimal digits -/

end Go.Ev

set_option linter.unusedSimpArgs false
set_option linter.unusedVariables false
namespace Go.Ev
open Go.Proofs

end Go.Ev

set_option linter.unusedSimpArgs false
set_option linter.unusedVariables false
namespace Go.Ev
open Go.Proofs

end Go.Ev

set_option linter.unusedSimpArgs false
set_option linter.unusedVariables false
namespace Go.Ev
open Go.Proofs

def rowOf : List RowD → List UInt8 → Option RowD
  | [], _ => none
  | r :: l, s => if r.name = s then some r else rowOf l s

def rCell (r : Option RowD) : SV := match r with
  | some r => r.sv
  | none => .agg [.str [], .sl [], .sl []]

def S3087 (F : List SV → Option AV) : Prop := ∀ (rs : List RowD) (s : List UInt8), rs.length < 100000000 → F [.sl (rowsSV rs), .str s] = some (.sv (.tup [rCell (rowOf rs s), .bool (rowOf rs s).isSome]))

def st3087 (xs : List SV) (s : List UInt8) (i : Nat) (z : Box) (bx : List Box) : SA := { nt := 21, tm := [(10, .sv (.int .i64 i)), (9, .sv (.int .i64 xs.length)), (8, .sv (.sl xs)), (4, .ptr 0 0), (1, .sv (.str s))], lz := none, bx := z :: bx, df := [] }

def zR : Box := .live [.sv (.str []), .sv .nilS, .sv .nilS]

set_option maxHeartbeats 4000000 in
theorem step3087 (E : Env) (cf : CallF) (m : Nat) (xs : List SV) (s : List UInt8) (i : Nat) (hlt : i < xs.length) (hxl : xs.length < 1000000000) (bx : List Box) (l : List UInt8) (n fs : List SV) (hc : ∀ h : i < xs.length, xs[i]'h = .agg [.str l, .sl n, .sl fs]) :
    evCA E cf m b3087_0 (st3087 xs s i zR bx) = if l = s then some (.ret, { nt := 21, tm := [(5, .sv (.bool true)), (4, .ptr 0 0)], lz := none, bx := .live [.sv (.str l), .sv (.sl n), .sv (.sl fs)] :: (bx ++ [.live [.sv (.str l), .sv (.sl n), .sv (.sl fs)]]), df := [] })
      else some (.normal, st3087 xs s (i + 1) zR (bx ++ [.live [.sv (.str l), .sv (.sl n), .sv (.sl fs)]])) := by
  have hw : IntKind.i64.wrap ((i : Int) + 1) = ((i + 1 : Nat) : Int) := by rw [IntKind.wrap_i64]; omega
  by_cases h : l = s
  · subst h
    simp [st3087, zR, b3087_0, hlt, hc]
  · have hb : (l == s) = false := by simpa using h
    simp [st3087, zR, b3087_0, hlt, hc, h, hb, hw]

theorem loop3087 (E : Env) (cf : CallF) (m : Nat) (xs : List SV) (s : List UInt8) (hxl : xs.length < 1000000000) :
    ∀ (rest : List RowD) (pre : List SV) (bx : List Box) (i k : Nat), xs = pre ++ rowsSV rest → i = pre.length → rest.length < k →
      ∃ bx', roundsA (evCA E cf m b3087_0) k (st3087 xs s i zR bx) = match rowOf rest s with
        | some r => some (.ret, { nt := 21, tm := [(5, .sv (.bool true)), (4, .ptr 0 0)], lz := none, bx := .live [.sv (.str r.name), .sv (.sl (u64s r.N)), .sv (.sl (strs r.S))] :: bx', df := [] })
        | none => some (.exit 0, { nt := 21, tm := [(4, .ptr 0 0)], lz := none, bx := zR :: bx', df := [] }) := by
  intro rest
  induction rest with
  | nil =>
    intro pre bx i k hsp hi hk
    obtain ⟨k, rfl⟩ : ∃ k', k = k' + 1 := ⟨k - 1, by omega⟩
    have hlt : ¬ (i < xs.length) := by rw [hsp, hi]; simp [rowsSV]
    refine ⟨bx, roundsA_out ?_ (by simp [rowOf])⟩
    simp [st3087, b3087_0, hlt, rowOf]
  | cons r rest ih =>
    intro pre bx i k hsp hi hk
    obtain ⟨k, rfl⟩ : ∃ k', k = k' + 1 := ⟨k - 1, by omega⟩
    have hlt : i < xs.length := by rw [hsp, hi]; simp [rowsSV]
    have hc : ∀ h : i < xs.length, xs[i]'h = .agg [.str r.name, .sl (u64s r.N), .sl (strs r.S)] := by subst hi; subst hsp; simp [rowsSV, RowD.sv]
    have hst := step3087 E cf m xs s i hlt hxl bx r.name (u64s r.N) (strs r.S) hc
    unfold rowOf
    by_cases h : r.name = s
    · rw [if_pos h] at hst
      rw [if_pos h]
      exact ⟨_, roundsA_out hst (by simp)⟩
    · rw [if_neg h] at hst
      rw [if_neg h]
      obtain ⟨bx', he⟩ := ih (pre ++ [r.sv]) (bx ++ [.live [.sv (.str r.name), .sv (.sl (u64s r.N)), .sv (.sl (strs r.S))]]) (i + 1) k (by rw [hsp]; simp [rowsSV]) (by simp [hi]) (by simp at hk; omega)
      exact ⟨bx', by rw [roundsA_step hst, he]⟩

theorem ev3087 (E : Env) (h : E.code 32 = some c3087) : S3087 (autoF E 32) := by
  intro rs s hg
  have hgl : (rowsSV rs).length = rs.length := by simp [rowsSV]
  obtain ⟨bx', hl⟩ := loop3087 E (evF E (rs.length + 1)) (rs.length + 1) (rowsSV rs) s (by omega) rs [] [] 0 (rs.length + 1) rfl rfl (by omega)
  refine autoA_sv (n := rs.length + 1) ?_ rfl
  unfold evPA
  simp only [h]
  simp only [st3087, zR, Int.ofNat_zero, Int.natCast_zero] at hl
  generalize rowsSV rs = xs at *
  cases hv : rowOf rs s with
  | none => rw [hv] at hl; simp [c3087, hl, rCell]
  | some r =>
    rw [hv] at hl
    simp only [rCell, RowD.sv]
    generalize hfs : strs r.S = fs at *
    generalize hns : u64s r.N = ns at *
    simp [c3087, hl, hfs, hns]

/-! ### A record of numbers -/

end Go.Ev
