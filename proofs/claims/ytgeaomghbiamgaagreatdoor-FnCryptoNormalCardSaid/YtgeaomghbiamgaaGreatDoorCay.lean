/- Crypto: the door's reading of all lines. -/
/- Crypto: the door's tree, the door, the laws (lines printed by a program of this work). -/
/- Entries of crypto. -/
/- What the listed variables hold, in the evaluator's words. -/
/- Rows of an argument, opened: what the evaluator reads in them. -/
import Derived.Test.YtgeaomghbiamgaaGreatDoorCaw
import Derived.Test.YtgeaomghbiamgaaGreatDoorCat
import Derived.Test.YtgeaomghbiamgaaGreatDoorCau
import Derived.ProofKit
import Derived.OpenShut
import Derived.LaidMore
import Derived.Test.YtgeaomghbiamgaaGreatDoorCah
import Derived.SliceStrings
import Derived.ChangeSlices
set_option linter.unusedSimpArgs false
set_option linter.unusedVariables false
namespace Go.Ev
open Go.Proofs

structure CdH (E : Env) : Prop extends KvH E where
  d88 : E.code 75 = some c88
  d90 : E.code 77 = some c90
  p88 : E.pure 75 = none
  p90 : E.pure 77 = none
  p29 : E.pure 129 = none
  q130 : E.pure 126 = some F130
  q57 : Has E 127 S1157
  q93 : Has E 128 S3193g

theorem set_cells (V0 A : List SV) (n j : Nat) (w : SV) (h : V0.length = n * 21) : ((V0 ++ A).map Cell.sv).set (n * 21 + j) (.sv w) = (V0 ++ A.set j w).map .sv := by
  rw [← List.map_set, List.set_append_right _ _ (by omega), show n * 21 + j - V0.length = j from by omega]

theorem crPairs_cons (f v : List UInt8) (l : List (List UInt8)) : crPairs (f :: v :: l) = crLine f v ++ 10 :: crPairs l := by
  unfold crPairs
  rw [crPr, List.map_cons, List.flatten_cons]
  simp

theorem pairs5100 (E : Env) (H : CdH E) (N m : Nat) (nm : List UInt8) (V0 : List SV) (n : Nat) (hV0 : V0.length = n * 21) (hn : n < 1000000) (rest : List UInt8) :
    ∀ (q : Nat) (S pre : List (List UInt8)) (K : List Box) (c : Nat) (t : List UInt8) (k : Nat), S.length ≤ q → pre.length % 2 = 0 → crOkS pre S = true → K[c]? = some (.live ((V0 ++ crAt nm pre).map .sv)) → (crPairs S ++ 10 :: rest).length ≤ 40000 → 40000 < N →
      ∃ K', roundsA (evCA E (evF E (N + 3)) m b5100_0) (k + (crPr S).length + 1) (stB5100 (scanBox (crPairs S ++ 10 :: rest) t :: K) (c + 1) n) = roundsA (evCA E (evF E (N + 3)) m b5100_0) k (stB5100 (scanBox rest [] :: K') (c + 1) n) ∧ K'[c]? = some (.live ((V0 ++ crAt nm (pre ++ S)).map .sv)) := by
  obtain ⟨S1, pS, sS⟩ := H.q57
  obtain ⟨T1, pT, sT⟩ := H.q93
  intro q
  induction q with
  | zero =>
    intro S pre K c t k hq he ho hK hl hN
    have : S = [] := List.eq_nil_of_length_eq_zero (by omega)
    subst this
    have hsc := scan88 E H.d88 0 (scanBox ([] ++ 10 :: rest) t :: K) [] rest t rfl (by simp) (by simp [crPairs, crPr] at hl; omega) (by simp) (N + 2) (by simp)
    have htx := evF90 E H.d90 (N + 2) 0 (scanBox rest [] :: K) rest [] rfl
    refine ⟨K, ?_, by rw [List.append_nil]; exact hK⟩
    exact roundsA_step (empty5100 E _ m H.p88 H.p90 H.q130 _ (scanBox rest [] :: K) hsc htx (c + 1) n)
  | succ q ih =>
    intro S pre K c t k hq he ho hK hl hN
    match S with
    | [] =>
      have hsc := scan88 E H.d88 0 (scanBox ([] ++ 10 :: rest) t :: K) [] rest t rfl (by simp) (by simp [crPairs, crPr] at hl; omega) (by simp) (N + 2) (by simp)
      have htx := evF90 E H.d90 (N + 2) 0 (scanBox rest [] :: K) rest [] rfl
      refine ⟨K, ?_, by rw [List.append_nil]; exact hK⟩
      exact roundsA_step (empty5100 E _ m H.p88 H.p90 H.q130 _ (scanBox rest [] :: K) hsc htx (c + 1) n)
    | [_] => cases ho
    | f :: v :: l =>
      unfold crOkS at ho
      rw [Bool.and_eq_true, Bool.and_eq_true] at ho
      obtain ⟨h1, h2, h3⟩ := ho
      obtain ⟨g1, x, g2, g3, g4, g5⟩ := crFine_find h1
      obtain ⟨j, hj⟩ := List.getElem?_of_mem g2
      have hne : x.lab ≠ sName := by
        intro e
        rw [← g3, e] at g1
        exact absurd g1 (by decide)
      have hw := crVal_word g5
      have hlo := crLab_ok x g2
      have hhd := crLab_head x g2 hne
      rw [g3] at hlo hhd
      rw [crPairs_cons, List.append_assoc, List.cons_append] at hl ⊢
      have hll : (crLine f v).length ≤ 40000 ∧ (crPairs l ++ 10 :: rest).length ≤ 40000 := by
        rw [List.length_append, List.length_cons] at hl
        omega
      have hvl : v.length ≤ 40000 := by
        have := hll.1
        unfold crLine at this
        rw [List.length_append, List.length_cons, List.length_cons] at this
        omega
      have hch := line_chars hlo (fun c hc => (hw.2 c hc).1)
      have hsc := scan88 E H.d88 0 (scanBox (crLine f v ++ 10 :: (crPairs l ++ 10 :: rest)) t :: K) (crLine f v) (crPairs l ++ 10 :: rest) t rfl (by omega) (by omega) hch (N + 2) (by omega)
      have htx := evF90 E H.d90 (N + 2) 0 (scanBox (crPairs l ++ 10 :: rest) (crLine f v) :: K) (crPairs l ++ 10 :: rest) (crLine f v) rfl
      have eP := pre_line f v
      rw [hhd] at eP
      have hb1 : (scanBox (crPairs l ++ 10 :: rest) (crLine f v) :: K)[c + 1]? = some (.live ((V0 ++ crAt nm pre).map .sv)) := by rw [List.getElem?_cons_succ]; exact hK
      obtain ⟨X, hX⟩ := kvAny E H.toKvH N (c + 1) (n * 21) _ (scanBox (crPairs l ++ 10 :: rest) (crLine f v) :: K) hb1 (by rw [List.length_map, List.length_append, hV0, crAt_len]; omega) hj v (.inr ⟨by rw [g3]; exact g1, g5⟩)
      rw [g3, set_cells V0 _ n j _ hV0, ← crAt_snoc nm f v pre he hj g3, List.set_cons_succ, List.cons_append] at hX
      have hcl : c < K.length := (List.getElem?_eq_some_iff.1 hK).1
      have hst := pair5100 E (evF E (N + 3)) m H.p88 H.p90 H.p29 H.q130 S1 T1 pS pT _ _ _ (crLine f v) (leftS f 13) (32 :: v) f v (by
        intro e
        have := congrArg List.length e
        unfold crLine at this
        rw [List.length_append, List.length_cons, List.length_cons] at this
        simp at this) hsc htx eP (split_line sS hlo hw.2 (by omega)) (trim_lab sT hlo) (trim_val sT hw.1 (fun c hc => (hw.2 c hc).1) (by omega)) (c + 1) n hn hX
      obtain ⟨K', e1, e2⟩ := ih l (pre ++ [f, v]) (K.set c (.live ((V0 ++ crAt nm (pre ++ [f, v])).map .sv)) ++ X) c (crLine f v) k (by simp only [List.length_cons] at hq; omega) (by simp; omega) h3 (by
        rw [List.getElem?_append_left (by simpa using hcl)]
        simp [hcl]) hll.2 hN
      refine ⟨K', ?_, by rw [show pre ++ f :: v :: l = pre ++ [f, v] ++ l from by simp]; exact e2⟩
      rw [show k + (crPr (f :: v :: l)).length + 1 = (k + (crPr l).length + 1) + 1 from by simp [crPr]; omega]
      rw [roundsA_step hst]
      exact e1

def crN (rs : List RowD) : Nat := (rs.map fun r => (crPr r.S).length + 2).sum

theorem nameOk {r : RowD} (h : crOk1 r = true) : (r.name ≠ [] ∧ ∀ c ∈ r.name, wordC c = true ∧ c.toNat ≠ 58) ∧ r.S.length % 2 = 0 ∧ crOkS [] r.S = true := by
  unfold crOk1 at h
  simp only [Bool.and_eq_true, decide_eq_true_eq] at h
  obtain ⟨h1, h2, _, h4, h5⟩ := h
  rw [whereI_neg] at h2
  unfold isWord at h1
  simp only [Bool.and_eq_true, List.all_eq_true, Bool.not_eq_true', beq_eq_false_iff_ne, ne_eq] at h1
  exact ⟨⟨h1.2, fun c hc => ⟨h1.1 c hc, h2 c hc⟩⟩, h4, h5⟩

theorem crText_cons (r : RowD) (rs : List RowD) : crText (r :: rs) = crLine sName r.name ++ 10 :: (crPairs r.S ++ 10 :: crText rs) := by
  unfold crText
  rw [List.map_cons, List.flatten_cons]
  unfold crRowT
  simp

theorem sName_ok : labOk sName = true := by decide
theorem sName_head : ((leftS sName 13).take 4 == sName) = true := by decide
theorem sName_tab : crTab[14]? = some cr14 ∧ cr14.lab = sName := ⟨rfl, rfl⟩

theorem rowsB5100 (E : Env) (H : CdH E) (N m : Nat) (hN : 40000 < N) :
    ∀ (rs done : List RowD) (K : List Box) (c n : Nat) (t : List UInt8) (k : Nat), done.length = n + 1 → n + rs.length < 1000000 → (∀ r ∈ rs, crOk1 r = true) → K[c]? = some (.live ((crCellsR done).map .sv)) → (crText rs).length ≤ 40000 →
      ∃ K' c' t', roundsA (evCA E (evF E (N + 3)) m b5100_0) (k + crN rs) (stB5100 (scanBox (crText rs) t :: K) (c + 1) n) = roundsA (evCA E (evF E (N + 3)) m b5100_0) k (stB5100 (scanBox [] t' :: K') (c' + 1) (n + rs.length)) ∧ K'[c']? = some (.live ((crCellsR (done ++ rs)).map .sv)) := by
  obtain ⟨S1, pS, sS⟩ := H.q57
  obtain ⟨T1, pT, sT⟩ := H.q93
  intro rs
  induction rs with
  | nil =>
    intro done K c n t k _ _ _ hK _
    exact ⟨K, c, t, rfl, by rw [List.append_nil]; exact hK⟩
  | cons r rs ih =>
    intro done K c n t k hd hnn hr hK hl
    obtain ⟨hw, hev, hok⟩ := nameOk (hr r (by simp))
    rw [crText_cons] at hl ⊢
    have hll : (crLine sName r.name).length ≤ 40000 ∧ (crPairs r.S ++ 10 :: crText rs).length ≤ 40000 ∧ (crText rs).length ≤ 40000 := by
      simp only [List.length_append, List.length_cons] at hl ⊢
      omega
    have hvl : r.name.length ≤ 40000 := by
      have := hll.1
      unfold crLine at this
      rw [List.length_append, List.length_cons, List.length_cons] at this
      omega
    have hch := line_chars sName_ok (fun c hc => (hw.2 c hc).1)
    have hsc := scan88 E H.d88 0 (scanBox (crLine sName r.name ++ 10 :: (crPairs r.S ++ 10 :: crText rs)) t :: K) (crLine sName r.name) (crPairs r.S ++ 10 :: crText rs) t rfl (by omega) (by omega) hch (N + 2) (by omega)
    have htx := evF90 E H.d90 (N + 2) 0 (scanBox (crPairs r.S ++ 10 :: crText rs) (crLine sName r.name) :: K) (crPairs r.S ++ 10 :: crText rs) (crLine sName r.name) rfl
    have eP := pre_line sName r.name
    rw [sName_head] at eP
    obtain ⟨W, hW⟩ : ∃ W, W = scanBox (crPairs r.S ++ 10 :: crText rs) (crLine sName r.name) :: K := ⟨_, rfl⟩
    have hb1 : W[c + 1]? = some (.live ((crCellsR done).map .sv)) := by rw [hW, List.getElem?_cons_succ]; exact hK
    have hcl := crCellsR_len done
    have hpl := plain_cells (crCellsR_can done)
    have hb2 : (W.set (c + 1) (.frz []) ++ [.live ((crCellsR done ++ crZ).map Cell.sv)])[W.length]? = some (.live ((crCellsR done ++ crZ).map .sv)) := by
      rw [List.getElem?_append_right (by simp)]
      simp
    obtain ⟨X, hX⟩ := kvAny E H.toKvH N W.length ((n + 1) * 21) _ _ hb2 (by
      rw [List.length_map, List.length_append, hcl, hd]
      show (n + 1) * 21 + 21 ≤ (n + 1) * 21 + 21
      omega) sName_tab.1 r.name (.inl sName_tab.2)
    rw [sName_tab.2, set_cells (crCellsR done) crZ (n + 1) 14 _ (by rw [hcl, hd]), show crZ.set 14 (crCell cr14 r.name) = crAt r.name [] from (crAt_nil r.name).symm] at hX
    have hst := name5100B E (evF E (N + 3)) m H.p88 H.p90 H.p29 H.q130 S1 T1 pS pT _ W _ (crLine sName r.name) (leftS sName 13) (32 :: r.name) sName r.name (by rw [hW]; exact hsc) (by rw [hW]; exact htx) eP (split_line sS sName_ok hw.2 (by omega)) (trim_lab sT sName_ok) (trim_val sT hw.1 (fun c hc => (hw.2 c hc).1) (by omega)) (c + 1) n _ hb1 (by rw [List.length_map, hcl, hd]) (by omega) (by rw [hpl]; exact hX)
    have hWl : W.length = K.length + 1 := by rw [hW]; rfl
    have hW2 : (W.set (c + 1) (Box.frz []) ++ [Box.live ((crCellsR done ++ crZ).map Cell.sv)]).set W.length (Box.live ((crCellsR done ++ crAt r.name []).map Cell.sv)) ++ X = scanBox (crPairs r.S ++ 10 :: crText rs) (crLine sName r.name) :: (K.set c (Box.frz []) ++ (Box.live ((crCellsR done ++ crAt r.name []).map Cell.sv) :: X)) := by
      rw [List.set_append_right _ _ (by simp), List.length_set, Nat.sub_self, hW]
      simp
    rw [hW2, hWl] at hst
    obtain ⟨K1, e1, e2⟩ := pairs5100 E H N m r.name (crCellsR done) (n + 1) (by rw [hcl, hd]) (by simp only [List.length_cons] at hnn; omega) (crText rs) r.S.length r.S [] (K.set c (.frz []) ++ (Box.live ((crCellsR done ++ crAt r.name []).map Cell.sv) :: X)) K.length (crLine sName r.name) (k + crN rs) (Nat.le_refl _) rfl hok (by
      rw [List.getElem?_append_right (by simp)]
      simp) hll.2.1 hN
    rw [List.nil_append] at e2
    have e2' : K1[K.length]? = some (.live ((crCellsR (done ++ [r])).map .sv)) := by
      rw [e2]
      unfold crCellsR
      simp
    obtain ⟨K', c', t', h1, h2⟩ := ih (done ++ [r]) K1 K.length (n + 1) [] k (by simp [hd]) (by simp only [List.length_cons] at hnn; omega) (fun q hq => hr q (by simp [hq])) e2' hll.2.2
    refine ⟨K', c', t', ?_, by rw [show done ++ r :: rs = done ++ [r] ++ rs from by simp]; exact h2⟩
    rw [show k + crN (r :: rs) = (k + crN rs + (crPr r.S).length + 1) + 1 from by unfold crN; rw [List.map_cons, List.sum_cons]; omega]
    rw [roundsA_step hst, e1, h1]
    rw [show n + 1 + rs.length = n + (r :: rs).length from by simp only [List.length_cons]; omega]

theorem rowsA5100 (E : Env) (H : CdH E) (N m : Nat) (hN : 40000 < N) (r : RowD) (rs : List RowD) (t : List UInt8) (k : Nat) (hl : rs.length < 900000) (hr : ∀ q ∈ r :: rs, crOk1 q = true) (htl : (crText (r :: rs)).length ≤ 40000) :
    ∃ K' c' t', roundsA (evCA E (evF E (N + 3)) m b5100_0) (k + crN (r :: rs)) (stA5100 [scanBox (crText (r :: rs)) t]) = roundsA (evCA E (evF E (N + 3)) m b5100_0) k (stB5100 (scanBox [] t' :: K') (c' + 1) rs.length) ∧ K'[c']? = some (.live ((crCellsR (r :: rs)).map .sv)) := by
  obtain ⟨S1, pS, sS⟩ := H.q57
  obtain ⟨T1, pT, sT⟩ := H.q93
  obtain ⟨hw, hev, hok⟩ := nameOk (hr r (by simp))
  rw [crText_cons] at htl ⊢
  have hll : (crLine sName r.name).length ≤ 40000 ∧ (crPairs r.S ++ 10 :: crText rs).length ≤ 40000 ∧ (crText rs).length ≤ 40000 := by
    simp only [List.length_append, List.length_cons] at htl ⊢
    omega
  have hvl : r.name.length ≤ 40000 := by
    have := hll.1
    unfold crLine at this
    rw [List.length_append, List.length_cons, List.length_cons] at this
    omega
  have hch := line_chars sName_ok (fun c hc => (hw.2 c hc).1)
  have hsc := scan88 E H.d88 0 [scanBox (crLine sName r.name ++ 10 :: (crPairs r.S ++ 10 :: crText rs)) t] (crLine sName r.name) (crPairs r.S ++ 10 :: crText rs) t rfl (by omega) (by omega) hch (N + 2) (by omega)
  have htx := evF90 E H.d90 (N + 2) 0 [scanBox (crPairs r.S ++ 10 :: crText rs) (crLine sName r.name)] (crPairs r.S ++ 10 :: crText rs) (crLine sName r.name) rfl
  have eP := pre_line sName r.name
  rw [sName_head] at eP
  obtain ⟨X, hX⟩ := kvAny E H.toKvH N 1 0 (crZ.map .sv) ([scanBox (crPairs r.S ++ 10 :: crText rs) (crLine sName r.name)] ++ [.live (crZ.map .sv)]) rfl (by decide) sName_tab.1 r.name (.inl sName_tab.2)
  have hsc0 := set_cells [] crZ 0 14 (crCell cr14 r.name) rfl
  simp only [List.nil_append, Nat.zero_mul] at hsc0
  rw [sName_tab.2, hsc0, show crZ.set 14 (crCell cr14 r.name) = crAt r.name [] from (crAt_nil r.name).symm] at hX
  have hst := name5100A E (evF E (N + 3)) m H.p88 H.p90 H.p29 H.q130 S1 T1 pS pT _ _ _ (crLine sName r.name) (leftS sName 13) (32 :: r.name) sName r.name hsc htx eP (split_line sS sName_ok hw.2 (by omega)) (trim_lab sT sName_ok) (trim_val sT hw.1 (fun c hc => (hw.2 c hc).1) (by omega)) hX
  obtain ⟨K1, e1, e2⟩ := pairs5100 E H N m r.name [] 0 rfl (by omega) (crText rs) r.S.length r.S [] (Box.live ((crAt r.name []).map Cell.sv) :: X) 0 (crLine sName r.name) (k + crN rs) (Nat.le_refl _) rfl hok rfl hll.2.1 hN
  rw [List.nil_append, List.nil_append] at e2
  obtain ⟨K', c', t', h1, h2⟩ := rowsB5100 E H N m hN rs [r] K1 0 0 [] k rfl (by omega) (fun q hq => hr q (by simp [hq])) (by rw [e2]; simp [crCellsR]) hll.2.2
  refine ⟨K', c', t', ?_, h2⟩
  rw [show k + crN (r :: rs) = (k + crN rs + (crPr r.S).length + 1) + 1 from by unfold crN; rw [List.map_cons, List.sum_cons]; omega]
  rw [roundsA_step hst]
  refine e1.trans ?_
  rw [h1, Nat.zero_add]

/-! ### All of it -/

def crAgg (r : RowD) : SV := .agg (crAt r.name r.S)

theorem chunk_cr : ∀ rs : List RowD, chunk 21 rs.length (crCellsR rs) = rs.map crAgg
  | [] => rfl
  | r :: rs => by
    have ih := chunk_cr rs
    unfold crCellsR at ih ⊢
    rw [List.length_cons, List.flatMap_cons, chunk, List.take_append_of_le_length (by rw [crAt_len]; exact Nat.le_refl _), List.drop_append_of_le_length (by rw [crAt_len]; exact Nat.le_refl _)]
    rw [List.take_of_length_le (by rw [crAt_len]; exact Nat.le_refl _), List.drop_eq_nil_of_le (by rw [crAt_len]; exact Nat.le_refl _), List.nil_append, ih, if_neg (by decide)]
    rfl

theorem crN_le : ∀ rs : List RowD, (∀ r ∈ rs, crOk1 r = true) → crN rs ≤ (crText rs).length
  | [], _ => Nat.le_refl _
  | r :: rs, h => by
    have ih := crN_le rs (fun q hq => h q (by simp [hq]))
    rw [crText_cons]
    have hp : ∀ (n : Nat) (l : List (List UInt8)), l.length ≤ n → (crPr l).length ≤ (crPairs l).length := by
      intro n
      induction n with
      | zero =>
        intro l hl
        have : l = [] := List.eq_nil_of_length_eq_zero (by omega)
        subst this
        exact Nat.le_refl _
      | succ n ih =>
        intro l hl
        match l with
        | [] => exact Nat.le_refl _
        | [_] => exact Nat.le_refl _
        | f :: v :: l =>
          have := ih l (by simp only [List.length_cons] at hl; omega)
          rw [crPairs_cons, crPr, List.length_append, List.length_cons, List.length_cons]
          omega
    have := hp _ r.S (Nat.le_refl _)
    unfold crN at ih ⊢
    simp only [List.map_cons, List.sum_cons, List.length_append, List.length_cons]
    omega

theorem crRows_le : ∀ rs : List RowD, rs.length ≤ (crText rs).length
  | [] => Nat.le_refl _
  | r :: rs => by
    have ih := crRows_le rs
    rw [crText_cons]
    simp only [List.length_append, List.length_cons]
    omega

def S5100 (F : List SV → Option AV) : Prop := ∀ rs : List RowD, crOk rs = true → (crText rs).length ≤ 40000 → F [.str (crText rs)] = some (.sv (.tup [.sl (rs.map crAgg), .nilI]))

set_option maxRecDepth 100000 in
set_option maxHeartbeats 8000000 in
theorem ev5100 (E : Env) (h : E.code 100 = some c5100) (H : CdH E) (h87 : E.code 74 = some c87) (h128 : E.code 85 = some c128) (hp87 : E.pure 74 = none) (hp128 : E.pure 85 = none) : S5100 (autoF E 100) := by
  intro rs ho hl
  unfold crOk at ho
  rw [List.all_eq_true] at ho
  have hrl := crRows_le rs
  have hnl := crN_le rs ho
  obtain ⟨N, hN⟩ : ∃ N, N = 50000 := ⟨_, rfl⟩
  have e87 := evF87 E h87 (N + 2) [] (crText rs)
  cases rs with
  | nil =>
    have hs := scan88e E H.d88 0 [scanBox [] []] [] rfl (N + 2)
    have e128 := evF128 E h128 (N + 2) 0 [scanBox [] []] [] [] rfl
    have ht : crText [] = [] := rfl
    rw [ht] at e87 ⊢
    refine autoA_sv (n := N + 3) ?_ rfl
    unfold evPA
    simp only [h]
    have hr : roundsA (evCA E (evF E (N + 3)) (N + 3) b5100_0) (N + 3) (stA5100 [scanBox [] []]) = some (.exit 0, { nt := 65, tm := [(5, .ptr 0 0), (4, .sv .nilS)], lz := none, bx := [scanBox [] []], df := [], mu := [112] }) := by
      refine roundsA_out ?_ (by simp)
      unfold stA5100
      generalize scanBox [] [] = Z at *
      simp [b5100_0, H.p88, hs]
    unfold stA5100 at hr
    simp only [List.length_nil, List.nil_append] at e87
    generalize scanBox [] [] = Z at *
    clear hN
    simp [c5100, hp87, e87, hr, hp128, e128]
  | cons r rs =>
    simp only [List.length_cons] at hrl
    obtain ⟨K', c', t', h1, h2⟩ := rowsA5100 E H N (N + 3) (by omega) r rs [] (N + 3 - crN (r :: rs)) (by omega) ho hl
    rw [show N + 3 - crN (r :: rs) + crN (r :: rs) = N + 3 from by omega] at h1
    have hs := scan88e E H.d88 0 (scanBox [] t' :: K') t' rfl (N + 2)
    have e128 := evF128 E h128 (N + 2) 0 (scanBox [] [] :: K') [] [] rfl
    obtain ⟨k0, hk0⟩ : ∃ k0, N + 3 - crN (r :: rs) = k0 + 1 := ⟨N + 3 - crN (r :: rs) - 1, by omega⟩
    have hr : roundsA (evCA E (evF E (N + 3)) (N + 3) b5100_0) (N + 3) (stA5100 [scanBox (crText (r :: rs)) []]) = some (.exit 0, { nt := 65, tm := [(5, .ptr 0 0), (4, .grw (c' + 1) (rs.length + 1) 21 112)], lz := none, bx := scanBox [] [] :: K', df := [], mu := [112] }) := by
      rw [h1, hk0]
      refine roundsA_out ?_ (by simp)
      unfold stB5100
      generalize scanBox [] t' = Z1 at *
      generalize scanBox [] [] = Z2 at *
      simp [b5100_0, H.p88, hs]
    have hch := chunk_cr (r :: rs)
    have hlen := crCellsR_len (r :: rs)
    have hpl := plain_cells (crCellsR_can (r :: rs))
    have hcl : c' < K'.length := (List.getElem?_eq_some_iff.1 h2).1
    have hKg : K'[c']'hcl = .live ((crCellsR (r :: rs)).map .sv) := (List.getElem?_eq_some_iff.1 h2).2
    refine autoA_sv (n := N + 3) ?_ rfl
    unfold evPA
    simp only [h]
    unfold stA5100 at hr
    simp only [List.length_nil, List.nil_append] at e87
    rw [List.length_cons] at hch hlen
    clear hN h1 hk0
    generalize hcr : crCellsR (r :: rs) = V at *
    rw [← hch]
    generalize crText (r :: rs) = TT at *
    generalize scanBox TT [] = Z1 at *
    generalize scanBox [] [] = Z2 at *
    have hpl2 : List.map (Cell.plain ∘ Cell.sv) V = V := by rw [← List.map_map]; exact hpl
    simp [-chunk, c5100, hp87, e87, hr, hp128, e128, hcl, hKg, Box.cells, hlen, hpl, hpl2]

end Go.Ev

set_option linter.unusedSimpArgs false
set_option linter.unusedVariables false
namespace Go.Ev
open Go.Proofs

/-! ### Cells read whole -/

def stD (D : List Cell) : SA := { nt := 0, tm := [], lz := none, bx := [.live D], df := [] }

theorem stD_live (l : List SV) : (l.map Cell.sv).map (fun c => match c with | .sv v => v | .own _ xs => .sl xs | .lnk _ _ => .ref [] | .lrw _ _ _ => .unk) = l := by
  induction l with
  | nil => rfl
  | cons x l ih => simp only [List.map_cons]; rw [ih]

theorem cellsD (l : List SV) (off : Nat) : cellsAtA (stD (l.map Cell.sv)) (.ptr 0 off) = some (l.drop off) := by
  show some ((((l.map Cell.sv).drop off).map fun c => match c with | .sv v => v | .own _ xs => .sl xs | .lnk _ _ => .ref [] | .lrw _ _ _ => .unk)) = _
  rw [← List.map_drop, stD_live]

/-! ### What a pointer points to, as a node -/

def S1145c (cl : Nat) (F : List SV → Option AV) : Prop := (∀ nm : List UInt8, F [.str nm, .nilP, .fn cl [] []] = some (.sv (nodeV nm 0 false 0 0 0 [] []))) ∧ ∀ (nm : List UInt8) (u : Int), F [.str nm, .ref [.int .u64 u], .fn cl [] []] = some (.sv (nodeV nm 3 false 0 u 0 [] []))

theorem ev1145c (E : Env) (h : E.code 101 = some c1145) (cl : Nat) (hc : Has E cl S35w) : S1145c cl (autoF E 101) := by
  obtain ⟨G, pG, sG⟩ := hc
  refine ⟨fun nm => ?_, fun nm u => ?_⟩
  · refine autoF_sv (n := 1) ?_ rfl
    unfold evP
    simp only [h]
    simp [c1145, List.replicate, nodeV]
  · have e := sG nm u
    refine autoF_sv (n := 1) ?_ rfl
    unfold evP
    simp only [h]
    unfold nodeV at *
    simp [c1145, List.replicate, pG, e]

def S66w (F : List SV → Option AV) : Prop := ∀ (nm : List UInt8) (u : Int), F [.str nm, .int .i64 u] = some (.sv (nodeV nm 2 false u 0 0 [] []))
def S5111c (cl : Nat) (F : List SV → Option AV) : Prop := (∀ nm : List UInt8, F [.str nm, .nilP, .fn cl [] []] = some (.sv (nodeV nm 0 false 0 0 0 [] []))) ∧ ∀ (nm : List UInt8) (u : Int), F [.str nm, .ref [.int .i64 u], .fn cl [] []] = some (.sv (nodeV nm 2 false u 0 0 [] []))

theorem ev5111c (E : Env) (h : E.code 111 = some c5111) (cl : Nat) (hc : Has E cl S66w) : S5111c cl (autoF E 111) := by
  obtain ⟨G, pG, sG⟩ := hc
  refine ⟨fun nm => ?_, fun nm u => ?_⟩
  · refine autoF_sv (n := 1) ?_ rfl
    unfold evP
    simp only [h]
    simp [c5111, List.replicate, nodeV]
  · have e := sG nm u
    refine autoF_sv (n := 1) ?_ rfl
    unfold evP
    simp only [h]
    unfold nodeV at *
    simp [c5111, List.replicate, pG, e]

theorem cl5102 (E : Env) (h : E.code 102 = some c5102) : S35w (autoF E 102) := by
  intro nm u
  refine autoF_sv (n := 1) ?_ rfl
  unfold evP
  simp only [h]
  simp [c5102, List.replicate, nodeV]

theorem cl5103 (E : Env) (h : E.code 103 = some c5103) : S35w (autoF E 103) := by
  intro nm u
  refine autoF_sv (n := 1) ?_ rfl
  unfold evP
  simp only [h]
  simp [c5103, c5102, List.replicate, nodeV]

theorem cl5104 (E : Env) (h : E.code 104 = some c5104) : S35w (autoF E 104) := by
  intro nm u
  refine autoF_sv (n := 1) ?_ rfl
  unfold evP
  simp only [h]
  simp [c5104, c5102, List.replicate, nodeV]

theorem cl5105 (E : Env) (h : E.code 105 = some c5105) : S35w (autoF E 105) := by
  intro nm u
  refine autoF_sv (n := 1) ?_ rfl
  unfold evP
  simp only [h]
  simp [c5105, c5102, List.replicate, nodeV]

theorem cl5106 (E : Env) (h : E.code 106 = some c5106) : S35w (autoF E 106) := by
  intro nm u
  refine autoF_sv (n := 1) ?_ rfl
  unfold evP
  simp only [h]
  simp [c5106, c5102, List.replicate, nodeV]

theorem cl5107 (E : Env) (h : E.code 107 = some c5107) : S35w (autoF E 107) := by
  intro nm u
  refine autoF_sv (n := 1) ?_ rfl
  unfold evP
  simp only [h]
  simp [c5107, c5102, List.replicate, nodeV]

theorem cl5108 (E : Env) (h : E.code 108 = some c5108) : S35w (autoF E 108) := by
  intro nm u
  refine autoF_sv (n := 1) ?_ rfl
  unfold evP
  simp only [h]
  simp [c5108, c5102, List.replicate, nodeV]

theorem cl5109 (E : Env) (h : E.code 109 = some c5109) : S35w (autoF E 109) := by
  intro nm u
  refine autoF_sv (n := 1) ?_ rfl
  unfold evP
  simp only [h]
  simp [c5109, c5102, List.replicate, nodeV]

theorem cl5110 (E : Env) (h : E.code 110 = some c5110) : S35w (autoF E 110) := by
  intro nm u
  refine autoF_sv (n := 1) ?_ rfl
  unfold evP
  simp only [h]
  simp [c5110, c5102, List.replicate, nodeV]

theorem cl5112 (E : Env) (h : E.code 112 = some c5112) : S66w (autoF E 112) := by
  intro nm u
  refine autoF_sv (n := 1) ?_ rfl
  unfold evP
  simp only [h]
  simp [c5112, List.replicate, nodeV]

theorem cl5113 (E : Env) (h : E.code 113 = some c5113) : S66w (autoF E 113) := by
  intro nm u
  refine autoF_sv (n := 1) ?_ rfl
  unfold evP
  simp only [h]
  simp [c5113, c5112, List.replicate, nodeV]

theorem cl5114 (E : Env) (h : E.code 114 = some c5114) : S35w (autoF E 114) := by
  intro nm u
  refine autoF_sv (n := 1) ?_ rfl
  unfold evP
  simp only [h]
  simp [c5114, c5102, List.replicate, nodeV]

theorem cl5115 (E : Env) (h : E.code 115 = some c5115) : S35w (autoF E 115) := by
  intro nm u
  refine autoF_sv (n := 1) ?_ rfl
  unfold evP
  simp only [h]
  simp [c5115, c5102, List.replicate, nodeV]

def S1145k (F : List SV → Option AV) : Prop := S1145c 102 F ∧ S1145c 103 F ∧ S1145c 104 F ∧ S1145c 105 F ∧ S1145c 106 F ∧ S1145c 107 F ∧ S1145c 108 F ∧ S1145c 109 F ∧ S1145c 110 F ∧ S1145c 114 F ∧ S1145c 115 F
def S5111k (F : List SV → Option AV) : Prop := S5111c 112 F ∧ S5111c 113 F

theorem ev1145k (E : Env) (h : E.code 101 = some c1145) (h5102 : Has E 102 S35w) (h5103 : Has E 103 S35w) (h5104 : Has E 104 S35w) (h5105 : Has E 105 S35w) (h5106 : Has E 106 S35w) (h5107 : Has E 107 S35w) (h5108 : Has E 108 S35w) (h5109 : Has E 109 S35w) (h5110 : Has E 110 S35w) (h5114 : Has E 114 S35w) (h5115 : Has E 115 S35w) : S1145k (autoF E 101) :=
  ⟨ev1145c E h _ h5102, ev1145c E h _ h5103, ev1145c E h _ h5104, ev1145c E h _ h5105, ev1145c E h _ h5106, ev1145c E h _ h5107, ev1145c E h _ h5108, ev1145c E h _ h5109, ev1145c E h _ h5110, ev1145c E h _ h5114, ev1145c E h _ h5115⟩

theorem ev5111k (E : Env) (h : E.code 111 = some c5111) (h5112 : Has E 112 S66w) (h5113 : Has E 113 S66w) : S5111k (autoF E 111) :=
  ⟨ev5111c E h _ h5112, ev5111c E h _ h5113⟩

set_option maxRecDepth 100000 in
set_option maxHeartbeats 32000000 in
theorem core5058 (E : Env) (h : E.code 58 = some c5058) (P Q : List SV → Option AV) (pP : E.pure 101 = some P) (pQ : E.pure 111 = some Q) (V0 : SV) (d0 i0 u0 : Int) (b1 : Bool) (V2 : SV) (d2 i2 u2 : Int) (V3 : SV) (d3 i3 u3 : Int) (V4 : SV) (d4 i4 u4 : Int) (V5 : SV) (d5 i5 u5 : Int) (s6 : List UInt8) (s7 : List UInt8) (s8 : List UInt8) (V9 : SV) (d9 i9 u9 : Int) (V10 : SV) (d10 i10 u10 : Int) (V11 : SV) (d11 i11 u11 : Int) (V12 : SV) (d12 i12 u12 : Int) (s13 : List UInt8) (s14 : List UInt8) (V15 : SV) (d15 i15 u15 : Int) (V16 : SV) (d16 i16 u16 : Int) (V17 : SV) (d17 i17 u17 : Int) (s18 : List UInt8) (s19 : List UInt8) (V20 : SV) (d20 i20 u20 : Int)
    (g0 : V0.can = V0) (g0b : V0.can0 = V0) (e0 : P [.str [65, 108, 105, 103, 110, 109, 97, 115, 107], V0, .fn 102 [] []] = some (.sv (nodeV [65, 108, 105, 103, 110, 109, 97, 115, 107] d0 false i0 u0 0 [] []))) (g2 : V2.can = V2) (g2b : V2.can0 = V2) (e2 : P [.str [66, 108, 111, 99, 107, 115, 105, 122, 101], V2, .fn 103 [] []] = some (.sv (nodeV [66, 108, 111, 99, 107, 115, 105, 122, 101] d2 false i2 u2 0 [] []))) (g3 : V3.can = V3) (g3b : V3.can0 = V3) (e3 : P [.str [67, 104, 117, 110, 107, 115, 105, 122, 101], V3, .fn 104 [] []] = some (.sv (nodeV [67, 104, 117, 110, 107, 115, 105, 122, 101] d3 false i3 u3 0 [] []))) (g4 : V4.can = V4) (g4b : V4.can0 = V4) (e4 : P [.str [67, 116, 120, 115, 105, 122, 101], V4, .fn 105 [] []] = some (.sv (nodeV [67, 116, 120, 115, 105, 122, 101] d4 false i4 u4 0 [] []))) (g5 : V5.can = V5) (g5b : V5.can0 = V5) (e5 : P [.str [68, 105, 103, 101, 115, 116, 115, 105, 122, 101], V5, .fn 106 [] []] = some (.sv (nodeV [68, 105, 103, 101, 115, 116, 115, 105, 122, 101] d5 false i5 u5 0 [] []))) (g9 : V9.can = V9) (g9b : V9.can0 = V9) (e9 : P [.str [73, 118, 115, 105, 122, 101], V9, .fn 107 [] []] = some (.sv (nodeV [73, 118, 115, 105, 122, 101] d9 false i9 u9 0 [] []))) (g10 : V10.can = V10) (g10b : V10.can0 = V10) (e10 : P [.str [77, 97, 120, 97, 117, 116, 104, 115, 105, 122, 101], V10, .fn 108 [] []] = some (.sv (nodeV [77, 97, 120, 97, 117, 116, 104, 115, 105, 122, 101] d10 false i10 u10 0 [] []))) (g11 : V11.can = V11) (g11b : V11.can0 = V11) (e11 : P [.str [77, 97, 120, 75, 101, 121, 115, 105, 122, 101], V11, .fn 109 [] []] = some (.sv (nodeV [77, 97, 120, 75, 101, 121, 115, 105, 122, 101] d11 false i11 u11 0 [] []))) (g12 : V12.can = V12) (g12b : V12.can0 = V12) (e12 : P [.str [77, 105, 110, 75, 101, 121, 115, 105, 122, 101], V12, .fn 110 [] []] = some (.sv (nodeV [77, 105, 110, 75, 101, 121, 115, 105, 122, 101] d12 false i12 u12 0 [] []))) (g15 : V15.can = V15) (g15b : V15.can0 = V15) (e15 : Q [.str [80, 114, 105, 111, 114, 105, 116, 121], V15, .fn 112 [] []] = some (.sv (nodeV [80, 114, 105, 111, 114, 105, 116, 121] d15 false i15 u15 0 [] []))) (g16 : V16.can = V16) (g16b : V16.can0 = V16) (e16 : Q [.str [82, 101, 102, 99, 110, 116], V16, .fn 113 [] []] = some (.sv (nodeV [82, 101, 102, 99, 110, 116] d16 false i16 u16 0 [] []))) (g17 : V17.can = V17) (g17b : V17.can0 = V17) (e17 : P [.str [83, 101, 101, 100, 115, 105, 122, 101], V17, .fn 114 [] []] = some (.sv (nodeV [83, 101, 101, 100, 115, 105, 122, 101] d17 false i17 u17 0 [] []))) (g20 : V20.can = V20) (g20b : V20.can0 = V20) (e20 : P [.str [87, 97, 108, 107, 115, 105, 122, 101], V20, .fn 115 [] []] = some (.sv (nodeV [87, 97, 108, 107, 115, 105, 122, 101] d20 false i20 u20 0 [] []))) :
    evPA E 1 58 [.str [], .agg [V0, .bool b1, V2, V3, V4, V5, .str s6, .str s7, .str s8, V9, V10, V11, V12, .str s13, .str s14, V15, V16, V17, .str s18, .str s19, V20]] = some (.sv (nodeV [] 8 false 0 0 0 [] [nodeV [65, 108, 105, 103, 110, 109, 97, 115, 107] d0 false i0 u0 0 [] [], nodeV [65, 115, 121, 110, 99] 1 b1 0 0 0 [] [], nodeV [66, 108, 111, 99, 107, 115, 105, 122, 101] d2 false i2 u2 0 [] [], nodeV [67, 104, 117, 110, 107, 115, 105, 122, 101] d3 false i3 u3 0 [] [], nodeV [67, 116, 120, 115, 105, 122, 101] d4 false i4 u4 0 [] [], nodeV [68, 105, 103, 101, 115, 116, 115, 105, 122, 101] d5 false i5 u5 0 [] [], nodeV [68, 114, 105, 118, 101, 114] 5 false 0 0 0 s6 [], nodeV [71, 101, 110, 105, 118] 5 false 0 0 0 s7 [], nodeV [73, 110, 116, 101, 114, 110, 97, 108] 5 false 0 0 0 s8 [], nodeV [73, 118, 115, 105, 122, 101] d9 false i9 u9 0 [] [], nodeV [77, 97, 120, 97, 117, 116, 104, 115, 105, 122, 101] d10 false i10 u10 0 [] [], nodeV [77, 97, 120, 75, 101, 121, 115, 105, 122, 101] d11 false i11 u11 0 [] [], nodeV [77, 105, 110, 75, 101, 121, 115, 105, 122, 101] d12 false i12 u12 0 [] [], nodeV [77, 111, 100, 117, 108, 101] 5 false 0 0 0 s13 [], nodeV [78, 97, 109, 101] 5 false 0 0 0 s14 [], nodeV [80, 114, 105, 111, 114, 105, 116, 121] d15 false i15 u15 0 [] [], nodeV [82, 101, 102, 99, 110, 116] d16 false i16 u16 0 [] [], nodeV [83, 101, 101, 100, 115, 105, 122, 101] d17 false i17 u17 0 [] [], nodeV [83, 101, 108, 102, 116, 101, 115, 116] 5 false 0 0 0 s18 [], nodeV [84, 121, 112, 101] 5 false 0 0 0 s19 [], nodeV [87, 97, 108, 107, 115, 105, 122, 101] d20 false i20 u20 0 [] []])) := by
  unfold evPA
  simp only [h]
  unfold SV.can at g0 g2 g3 g4 g5 g9 g10 g11 g12 g15 g16 g17 g20
  unfold nodeV at *
  simp (maxSteps := 4000000) [c5058, pP, pQ, g0, g0b, e0, g2, g2b, e2, g3, g3b, e3, g4, g4b, e4, g5, g5b, e5, g9, g9b, e9, g10, g10b, e10, g11, g11b, e11, g12, g12b, e12, g15, g15b, e15, g16, g16b, e16, g17, g17b, e17, g20, g20b, e20]

theorem crLk_fine (lab : List UInt8) : ∀ (n : Nat) (S pre : List (List UInt8)) (a : List UInt8 × Bool), S.length ≤ n → crOkS pre S = true → (a.2 = true → crFine lab a.1 = true) → (crLk lab S a).2 = true → crFine lab (crLk lab S a).1 = true
  | _, [], _, a, _, _, h, h2 => h h2
  | _, [_], _, _, _, h, _, _ => by cases h
  | 0, _ :: _ :: _, _, _, h, _, _, _ => by simp at h
  | n + 1, f :: v :: l, pre, a, hn, ho, h, h2 => by
    unfold crOkS at ho
    rw [Bool.and_eq_true, Bool.and_eq_true] at ho
    rw [crLk] at h2 ⊢
    refine crLk_fine lab n l _ _ (by simp only [List.length_cons] at hn; omega) ho.2.2 ?_ h2
    intro h3
    split at h3
    · rename_i e
      rw [if_pos e, ← e]
      exact ho.1
    · rename_i e
      rw [if_neg e]
      exact h h3

theorem crFin_u (x : CrF) (a : List UInt8 × Bool) (h1 : x.k = 117) : crFin x a = (if a.2 = true then .ref [.int .u64 (crNum a.1 : Int)] else .nilP) ∧ crNode x (if a.2 = true then a.1 else []) a.2 = nodeV x.nm (if a.2 = true then 3 else 0) false 0 (if a.2 = true then (crNum a.1 : Int) else 0) 0 [] [] := by
  unfold crFin crNode crCell crZero
  rw [h1]
  cases a.2 <;> exact ⟨rfl, rfl⟩

theorem crFin_i (x : CrF) (a : List UInt8 × Bool) (h1 : x.k = 105) (h2 : a.2 = true → crNum a.1 < 9223372036854775808) : crFin x a = (if a.2 = true then .ref [.int .i64 (crNum a.1 : Int)] else .nilP) ∧ crNode x (if a.2 = true then a.1 else []) a.2 = nodeV x.nm (if a.2 = true then 2 else 0) false (if a.2 = true then (crNum a.1 : Int) else 0) 0 0 [] [] := by
  unfold crFin crNode crCell crZero
  rw [h1]
  cases h : a.2 with
  | false => exact ⟨rfl, rfl⟩
  | true =>
    have := h2 h
    refine ⟨rfl, ?_⟩
    simp only [if_true]
    rw [show IntKind.i64.wrap (crNum a.1 : Int) = (crNum a.1 : Int) from by rw [IntKind.wrap_i64]; omega]
    rfl

theorem crFin_b (x : CrF) (a : List UInt8 × Bool) (h1 : x.k = 98) : crFin x a = .bool ((if a.2 = true then a.1 else []) == sYes) ∧ crNode x (if a.2 = true then a.1 else []) a.2 = nodeV x.nm 1 ((if a.2 = true then a.1 else []) == sYes) 0 0 0 [] [] := by
  unfold crFin crNode crCell crZero
  rw [h1]
  cases a.2 <;> exact ⟨rfl, rfl⟩

theorem crFin_s (x : CrF) (a : List UInt8 × Bool) (h1 : x.k = 115) : crFin x a = .str (if a.2 = true then a.1 else []) ∧ crNode x (if a.2 = true then a.1 else []) a.2 = nodeV x.nm 5 false 0 0 0 (if a.2 = true then a.1 else []) [] := by
  unfold crFin crNode crCell crZero
  rw [h1]
  cases a.2 <;> exact ⟨rfl, rfl⟩

def S5058 (F : List SV → Option AV) : Prop := ∀ r : RowD, crOk1 r = true → F [.str [], crAgg r] = some (.sv (crRec r))

theorem refcan (q : Bool) (k : IntKind) (n : Int) : (if q = true then SV.ref [.int k n] else .nilP).can = (if q = true then SV.ref [.int k n] else .nilP) ∧ (if q = true then SV.ref [.int k n] else .nilP).can0 = (if q = true then SV.ref [.int k n] else .nilP) := by
  cases q <;> exact ⟨rfl, rfl⟩

theorem ptrU {cl : Nat} {P : List SV → Option AV} (h : S1145c cl P) (nm : List UInt8) (q : Bool) (n : Int) : P [.str nm, (if q = true then SV.ref [.int .u64 n] else .nilP), .fn cl [] []] = some (.sv (nodeV nm (if q = true then 3 else 0) false 0 (if q = true then n else 0) 0 [] [])) := by
  cases q
  · exact h.1 nm
  · exact h.2 nm n

theorem ptrI {cl : Nat} {P : List SV → Option AV} (h : S5111c cl P) (nm : List UInt8) (q : Bool) (n : Int) : P [.str nm, (if q = true then SV.ref [.int .i64 n] else .nilP), .fn cl [] []] = some (.sv (nodeV nm (if q = true then 2 else 0) false (if q = true then n else 0) 0 0 [] [])) := by
  cases q
  · exact h.1 nm
  · exact h.2 nm n

theorem crNum_fine {r : RowD} (h : crOk1 r = true) {x : CrF} (hx : crFind x.lab crTab = some x) (hk : x.k = 105) (hn : x.lab ≠ sName) : (crGot r x).2 = true → crNum (crGot r x).1 < 9223372036854775808 := by
  intro h2
  obtain ⟨_, _, ho⟩ := nameOk h
  have hf := crLk_fine x.lab _ r.S [] (r.name, x.lab == sName) (Nat.le_refl _) ho (fun e => absurd (by simpa using e) hn) h2
  obtain ⟨_, y, _, _, hy, hv⟩ := crFine_find hf
  rw [hx] at hy
  have := Option.some.inj hy
  subst this
  obtain ⟨n, hn2, hv2⟩ := crVal_dec (by rw [hk]; decide) (by rw [hk]; decide) hv
  rw [show (crGot r x).1 = (crLk x.lab r.S (r.name, x.lab == sName)).1 from rfl, hv2, crNum_dec (by omega)]
  exact hn2

set_option maxRecDepth 100000 in
set_option maxHeartbeats 4000000 in
theorem ev5058 (E : Env) (h : E.code 58 = some c5058) (h45 : Has E 101 S1145k) (h11 : Has E 111 S5111k) : S5058 (autoF E 58) := by
  obtain ⟨P, pP, k5102, k5103, k5104, k5105, k5106, k5107, k5108, k5109, k5110, k5114, k5115⟩ := h45
  obtain ⟨Q, pQ, k5112, k5113⟩ := h11
  intro r hok
  refine autoA_sv (n := 1) ?_ rfl
  obtain ⟨a0, z0⟩ := crFin_u cr0 (crGot r cr0) rfl
  obtain ⟨a1, z1⟩ := crFin_b cr1 (crGot r cr1) rfl
  obtain ⟨a2, z2⟩ := crFin_u cr2 (crGot r cr2) rfl
  obtain ⟨a3, z3⟩ := crFin_u cr3 (crGot r cr3) rfl
  obtain ⟨a4, z4⟩ := crFin_u cr4 (crGot r cr4) rfl
  obtain ⟨a5, z5⟩ := crFin_u cr5 (crGot r cr5) rfl
  obtain ⟨a6, z6⟩ := crFin_s cr6 (crGot r cr6) rfl
  obtain ⟨a7, z7⟩ := crFin_s cr7 (crGot r cr7) rfl
  obtain ⟨a8, z8⟩ := crFin_s cr8 (crGot r cr8) rfl
  obtain ⟨a9, z9⟩ := crFin_u cr9 (crGot r cr9) rfl
  obtain ⟨a10, z10⟩ := crFin_u cr10 (crGot r cr10) rfl
  obtain ⟨a11, z11⟩ := crFin_u cr11 (crGot r cr11) rfl
  obtain ⟨a12, z12⟩ := crFin_u cr12 (crGot r cr12) rfl
  obtain ⟨a13, z13⟩ := crFin_s cr13 (crGot r cr13) rfl
  obtain ⟨a14, z14⟩ := crFin_s cr14 (crGot r cr14) rfl
  obtain ⟨a15, z15⟩ := crFin_i cr15 (crGot r cr15) rfl (crNum_fine hok (by decide) rfl (by decide))
  obtain ⟨a16, z16⟩ := crFin_i cr16 (crGot r cr16) rfl (crNum_fine hok (by decide) rfl (by decide))
  obtain ⟨a17, z17⟩ := crFin_u cr17 (crGot r cr17) rfl
  obtain ⟨a18, z18⟩ := crFin_s cr18 (crGot r cr18) rfl
  obtain ⟨a19, z19⟩ := crFin_s cr19 (crGot r cr19) rfl
  obtain ⟨a20, z20⟩ := crFin_u cr20 (crGot r cr20) rfl
  have hA : crAgg r = .agg [crFin cr0 (crGot r cr0), crFin cr1 (crGot r cr1), crFin cr2 (crGot r cr2), crFin cr3 (crGot r cr3), crFin cr4 (crGot r cr4), crFin cr5 (crGot r cr5), crFin cr6 (crGot r cr6), crFin cr7 (crGot r cr7), crFin cr8 (crGot r cr8), crFin cr9 (crGot r cr9), crFin cr10 (crGot r cr10), crFin cr11 (crGot r cr11), crFin cr12 (crGot r cr12), crFin cr13 (crGot r cr13), crFin cr14 (crGot r cr14), crFin cr15 (crGot r cr15), crFin cr16 (crGot r cr16), crFin cr17 (crGot r cr17), crFin cr18 (crGot r cr18), crFin cr19 (crGot r cr19), crFin cr20 (crGot r cr20)] := rfl
  have hR : crRec r = nodeV [] 8 false 0 0 0 [] [crNode cr0 (if (crGot r cr0).2 = true then (crGot r cr0).1 else []) (crGot r cr0).2, crNode cr1 (if (crGot r cr1).2 = true then (crGot r cr1).1 else []) (crGot r cr1).2, crNode cr2 (if (crGot r cr2).2 = true then (crGot r cr2).1 else []) (crGot r cr2).2, crNode cr3 (if (crGot r cr3).2 = true then (crGot r cr3).1 else []) (crGot r cr3).2, crNode cr4 (if (crGot r cr4).2 = true then (crGot r cr4).1 else []) (crGot r cr4).2, crNode cr5 (if (crGot r cr5).2 = true then (crGot r cr5).1 else []) (crGot r cr5).2, crNode cr6 (if (crGot r cr6).2 = true then (crGot r cr6).1 else []) (crGot r cr6).2, crNode cr7 (if (crGot r cr7).2 = true then (crGot r cr7).1 else []) (crGot r cr7).2, crNode cr8 (if (crGot r cr8).2 = true then (crGot r cr8).1 else []) (crGot r cr8).2, crNode cr9 (if (crGot r cr9).2 = true then (crGot r cr9).1 else []) (crGot r cr9).2, crNode cr10 (if (crGot r cr10).2 = true then (crGot r cr10).1 else []) (crGot r cr10).2, crNode cr11 (if (crGot r cr11).2 = true then (crGot r cr11).1 else []) (crGot r cr11).2, crNode cr12 (if (crGot r cr12).2 = true then (crGot r cr12).1 else []) (crGot r cr12).2, crNode cr13 (if (crGot r cr13).2 = true then (crGot r cr13).1 else []) (crGot r cr13).2, crNode cr14 (if (crGot r cr14).2 = true then (crGot r cr14).1 else []) (crGot r cr14).2, crNode cr15 (if (crGot r cr15).2 = true then (crGot r cr15).1 else []) (crGot r cr15).2, crNode cr16 (if (crGot r cr16).2 = true then (crGot r cr16).1 else []) (crGot r cr16).2, crNode cr17 (if (crGot r cr17).2 = true then (crGot r cr17).1 else []) (crGot r cr17).2, crNode cr18 (if (crGot r cr18).2 = true then (crGot r cr18).1 else []) (crGot r cr18).2, crNode cr19 (if (crGot r cr19).2 = true then (crGot r cr19).1 else []) (crGot r cr19).2, crNode cr20 (if (crGot r cr20).2 = true then (crGot r cr20).1 else []) (crGot r cr20).2] := rfl
  rw [hA, hR, a0, z0, a1, z1, a2, z2, a3, z3, a4, z4, a5, z5, a6, z6, a7, z7, a8, z8, a9, z9, a10, z10, a11, z11, a12, z12, a13, z13, a14, z14, a15, z15, a16, z16, a17, z17, a18, z18, a19, z19, a20, z20]
  exact core5058 E h P Q pP pQ _ _ _ _ _ _ _ _ _ _ _ _ _ _ _ _ _ _ _ _ _ _ _ _ _ _ _ _ _ _ _ _ _ _ _ _ _ _ _ _ _ _ _ _ _ _ _ _ _ _ _ _ _ _ _ _ _ _ _ _ (refcan _ _ _).1 (refcan _ _ _).2 (ptrU k5102 _ _ _) (refcan _ _ _).1 (refcan _ _ _).2 (ptrU k5103 _ _ _) (refcan _ _ _).1 (refcan _ _ _).2 (ptrU k5104 _ _ _) (refcan _ _ _).1 (refcan _ _ _).2 (ptrU k5105 _ _ _) (refcan _ _ _).1 (refcan _ _ _).2 (ptrU k5106 _ _ _) (refcan _ _ _).1 (refcan _ _ _).2 (ptrU k5107 _ _ _) (refcan _ _ _).1 (refcan _ _ _).2 (ptrU k5108 _ _ _) (refcan _ _ _).1 (refcan _ _ _).2 (ptrU k5109 _ _ _) (refcan _ _ _).1 (refcan _ _ _).2 (ptrU k5110 _ _ _) (refcan _ _ _).1 (refcan _ _ _).2 (ptrI k5112 _ _ _) (refcan _ _ _).1 (refcan _ _ _).2 (ptrI k5113 _ _ _) (refcan _ _ _).1 (refcan _ _ _).2 (ptrU k5114 _ _ _) (refcan _ _ _).1 (refcan _ _ _).2 (ptrU k5115 _ _ _)

def S5057 (F : List SV → Option AV) : Prop := ∀ r : RowD, crOk1 r = true → F [crAgg r] = some (.sv (crRec r))

theorem crAt_list (r : RowD) : ∃ V, crAgg r = .agg V ∧ V.length = 21 ∧ V.map SV.can0 = V := ⟨crAt r.name r.S, rfl, rfl, crAt_can _ _⟩

set_option maxRecDepth 100000 in
theorem ev5057 (E : Env) (h : E.code 57 = some c5057) (h58 : Has E 58 S5058) : S5057 (autoF E 57) := by
  obtain ⟨F, pF, sF⟩ := h58
  intro r hok
  have hF := sF r hok
  obtain ⟨V, hV, hl, hcan⟩ := crAt_list r
  rw [hV] at hF ⊢
  refine autoA_sv (n := 1) ?_ rfl
  unfold evPA
  simp only [h]
  unfold crRec nodeV at *
  generalize crTab.map (crKid r) = KD at *
  have htk : V.take 21 = V := List.take_of_length_le (by omega)
  have hcell : cellsAtA { nt := 0, tm := [], lz := none, bx := [.live (V.map Cell.sv)], df := [] } (.ptr 0 0) = some V := cellsD V 0
  simp [-List.map_map, cellsAtA] at hcell
  simp [-List.map_map, c5057, hcan, hl, htk, hcell, pF, hF]

/-! ### The list -/

theorem setCells_atC : ∀ (V : List SV) (A C : List Cell), V.length = C.length → setCells (A ++ C) A.length V = A ++ V.map Cell.sv
  | [], A, C, h => by
    have : C = [] := List.eq_nil_of_length_eq_zero (by simpa using h.symm)
    subst this
    simp [setCells]
  | v :: V, A, [], h => by simp at h
  | v :: V, A, c :: C, h => by
    simp only [List.length_cons, Nat.add_right_cancel_iff] at h
    have := setCells_atC V (A ++ [.sv v]) C h
    rw [List.length_append] at this
    unfold setCells
    rw [List.set_append_right _ _ (Nat.le_refl _), Nat.sub_self, List.set_cons_zero]
    simpa using this

theorem setAllC (V : List SV) (C : List Cell) (h : V.length = C.length) : setCells C 0 V = V.map Cell.sv := setCells_atC V [] C h

def S5056 (F : List SV → Option AV) : Prop := ∀ rs : List RowD, rs.length < 100000 → (∀ r ∈ rs, crOk1 r = true) → F [.str [], .sl (rs.map crAgg), .fn 57 [] []] = some (.sv (crTree rs))

def nB (kids : Cell) : Box := .live [.sv (.str []), .sv (.int .i64 6), .sv (.bool false), .sv (.int .i64 0), .sv (.int .u64 0), .sv (.flt .f64 0), .sv (.str []), kids]

def st5056 (xs acc : List SV) (i : Nat) (bx : List Box) : SA := { nt := 28, tm := [(14, .sv (.int .i64 i)), (13, .sv (.int .i64 xs.length)), (12, .sv (.sl xs)), (7, .ptr 1 0), (6, .ptr 0 0), (2, .sv (.fn 57 [] []))], lz := none, bx := zN :: nB (accC 47 acc) :: bx, df := [] }

set_option maxRecDepth 100000 in
set_option maxHeartbeats 8000000 in
theorem step5056 (E : Env) (cf : CallF) (m : Nat) (F : List SV → Option AV) (pF : E.pure 57 = some F) (xs acc : List SV) (ha : acc.length < 1000000) (i : Nat) (hlt : i < xs.length) (hxl : xs.length < 1000000) (V KK : List SV) (hVl : V.length = 21) (hcan : V.map SV.can0 = V) (hc : ∀ h : i < xs.length, xs[i]'h = .agg V) (hF : F [.agg V] = some (.sv (nodeV [] 8 false 0 0 0 [] KK))) (bx : List Box) :
    evCA E cf m b5056_0 (st5056 xs acc i bx) = some (.normal, st5056 xs (acc ++ [nodeV [] 8 false 0 0 0 [] KK]) (i + 1) (bx ++ [.live (V.map .sv)])) := by
  have w1 : binSV .add (.int .i64 (i : Int)) (.int .i64 1) = some (.int .i64 ((i : Int) + 1)) := addI (by rw [IntKind.wrap_i64]; omega)
  have hlss : binSV .lss (.int .i64 (i : Int)) (.int .i64 (xs.length : Int)) = some (.bool true) := by
    simp only [binSV, if_true, show (i : Int) < (xs.length : Int) from by omega, decide_true]
  have htk : V.take 21 = V := List.take_of_length_le (by omega)
  have hset : ∀ C : List Cell, C.length = 21 → setCells C 0 V = V.map Cell.sv := fun C h => setAllC V C (by omega)
  have hcell : cellsAtA { nt := 0, tm := [], lz := none, bx := [.live (V.map Cell.sv)], df := [] } (.ptr 0 0) = some V := cellsD V 0
  simp [-List.map_map, cellsAtA] at hcell
  unfold st5056 zN nB
  unfold nodeV at *
  cases acc with
  | nil => simp [-binSV, -List.map_map, b5056_0, accC, hlss, hlt, hc, hVl, hcan, htk, hcell, hset, pF, hF, w1]
  | cons z zs =>
    simp only [List.length_cons] at ha
    have q1 : (zs.length + 1 + 1) * 96 ≤ 140737488355328 := by omega
    have q2 : zs.length + 1 + 1 ≤ 140737488355328 := by omega
    simp [-binSV, -List.map_map, b5056_0, accC, hlss, hlt, hc, hVl, hcan, htk, hcell, hset, pF, hF, w1, q1, q2]

theorem loop5056 (E : Env) (cf : CallF) (m : Nat) (h57 : Has E 57 S5057) (xs : List SV) (hxl : xs.length < 1000000) :
    ∀ (rest : List RowD) (pre acc : List SV) (i k : Nat) (bx : List Box), xs = pre ++ rest.map crAgg → i = pre.length → acc.length ≤ i → (∀ r ∈ rest, crOk1 r = true) → rest.length < k →
      ∃ L, roundsA (evCA E cf m b5056_0) k (st5056 xs acc i bx) = some (.exit 0, { nt := 28, tm := [(7, .ptr 1 0), (6, .ptr 0 0)], lz := none, bx := zN :: nB (accC 47 (acc ++ rest.map crRec)) :: L, df := [] }) := by
  obtain ⟨F, pF, sF⟩ := h57
  intro rest
  induction rest with
  | nil =>
    intro pre acc i k bx hsp hi _ _ hk
    obtain ⟨k, rfl⟩ : ∃ k', k = k' + 1 := ⟨k - 1, by omega⟩
    have hlt : ¬ (i < xs.length) := by rw [hsp, hi]; simp
    refine ⟨bx, roundsA_out ?_ (by simp)⟩
    unfold st5056
    simp only [List.map_nil, List.append_nil]
    generalize nB (accC 47 acc) = Z at *
    simp [b5056_0, hlt]
  | cons r rest ih =>
    intro pre acc i k bx hsp hi ha hr hk
    obtain ⟨k, rfl⟩ : ∃ k', k = k' + 1 := ⟨k - 1, by omega⟩
    have hlt : i < xs.length := by rw [hsp, hi]; simp
    obtain ⟨V, hV, hVl, hcan⟩ := crAt_list r
    have hc : ∀ h : i < xs.length, xs[i]'h = .agg V := by
      rw [← hV]
      subst hi; subst hsp; simp
    have hF := sF r (hr r (by simp))
    rw [hV] at hF
    have hst := step5056 E cf m F pF xs acc (by omega) i hlt hxl V _ hVl hcan hc hF bx
    rw [roundsA_step hst]
    obtain ⟨L, he⟩ := ih (pre ++ [crAgg r]) (acc ++ [crRec r]) (i + 1) k (bx ++ [.live (V.map .sv)]) (by rw [hsp]; simp) (by simp [hi]) (by simp; omega) (fun q hq => hr q (by simp [hq])) (by simp at hk; omega)
    refine ⟨L, ?_⟩
    rw [show acc ++ [crRec r] ++ rest.map crRec = acc ++ (r :: rest).map crRec from by simp] at he
    exact he

theorem ev5056 (E : Env) (h : E.code 56 = some c5056) (h57 : Has E 57 S5057) : S5056 (autoF E 56) := by
  intro rs hl hok
  have hrl : (rs.map crAgg).length = rs.length := by simp
  obtain ⟨L, he⟩ := loop5056 E (evF E (rs.length + 1)) (rs.length + 1) h57 (rs.map crAgg) (by omega) rs [] [] 0 (rs.length + 1) [] rfl rfl (by simp) hok (by omega)
  refine autoA_sv (n := rs.length + 1) ?_ rfl
  unfold evPA
  simp only [h]
  unfold crTree
  simp only [st5056, zN, nB, Int.ofNat_zero, Int.natCast_zero, List.nil_append] at he
  rw [show accC 47 ([] : List SV) = Cell.sv .nilS from rfl] at he
  unfold nodeV
  generalize rs.map crAgg = R at *
  generalize rs.map crRec = KD at *
  cases KD with
  | nil => simp only [accC] at he; simp [c5056, he]
  | cons z zs => simp only [accC] at he; simp [c5056, he]

def S5055 (F : List SV → Option AV) : Prop := ∀ rs : List RowD, rs.length < 100000 → (∀ r ∈ rs, crOk1 r = true) → F [.sl (rs.map crAgg)] = some (.sv (crTree rs))

theorem ev5055 (E : Env) (h : E.code 55 = some c5055) (h56 : Has E 56 S5056) : S5055 (autoF E 55) := by
  obtain ⟨F, pF, sF⟩ := h56
  intro rs hl hok
  have hF := sF rs hl hok
  refine autoA_sv (n := 1) ?_ rfl
  unfold evPA
  simp only [h]
  unfold crTree nodeV at *
  generalize rs.map crAgg = R at *
  generalize rs.map crRec = KD at *
  simp [c5055, pF, hF]

def S5054 (F : List SV → Option AV) : Prop := ∀ rs : List RowD, crOk rs = true → (crText rs).length ≤ 40000 → F [.agg [.str (crText rs)]] = some (.sv (.tup [.sl (rs.map crAgg), .nilI]))

set_option maxRecDepth 100000 in
theorem ev5054 (E : Env) (h : E.code 54 = some c5054) (h85 : E.pure 98 = some F85) (h99 : E.pure 99 = some F99) (h00 : Has E 100 S5100) : S5054 (autoF E 54) := by
  obtain ⟨F, pF, sF⟩ := h00
  intro rs hok hs
  have hF := sF rs hok hs
  have hF99 : F99 [.str (crText rs)] = some (.sv (.tup [.sl (bytesSV (crText rs)), .nilI])) := onlyIf_pos (by omega)
  have hb := svBytes_bytes (crText rs)
  refine autoA_sv (n := 1) ?_ rfl
  unfold evPA
  simp only [h]
  generalize rs.map crAgg = R at *
  generalize crText rs = TT at *
  generalize bytesSV TT = bs at *
  simp [c5054, h85, F85, h99, hF99, hb, pF, hF]

def S5052 (F : List SV → Option AV) : Prop := ∀ rs : List RowD, crOk rs = true → (crText rs).length ≤ 40000 → F [.fn 54 [.agg [.str (crText rs)]] [], .fn 55 [] []] = some (.sv (.tup [crTree rs, .int .i64 0]))

set_option maxRecDepth 100000 in
theorem ev5052 (E : Env) (h : E.code 52 = some c5052) (hq : E.quiet 97 = true) (hS : Has E 54 S5054) (hC : Has E 55 S5055) : S5052 (autoF E 52) := by
  obtain ⟨F, pF, sF⟩ := hS
  obtain ⟨G, pG, sG⟩ := hC
  intro rs hok hs
  have hF := sF rs hok hs
  have hrl := crRows_le rs
  have hok' := hok
  unfold crOk at hok'
  rw [List.all_eq_true] at hok'
  have hG := sG rs (by omega) hok'
  refine autoA_sv (n := 1) ?_ rfl
  unfold evPA
  simp only [h]
  unfold crTree nodeV at *
  generalize rs.map crAgg = R at *
  generalize rs.map crRec = KD at *
  generalize crText rs = TT at *
  simp [c5052, pF, hF, pG, hG, hq]

def S5019 (F : List SV → Option AV) : Prop := SDoorG crRd crOk crTree F

theorem ev5019 (E : Env) (h : E.code 19 = some c5019) (h38 : E.pure 53 = some F38) (hT : Has E 52 S5052) : S5019 (autoF E 19) := by
  obtain ⟨F, pF, sF⟩ := hT
  intro s rs hrd hok hf hs
  obtain ⟨rfl, _⟩ := hrd
  have hF := sF rs hok hs
  refine autoA_sv (n := 1) ?_ rfl
  unfold evPA
  simp only [h]
  unfold crTree nodeV at *
  generalize rs.map crRec = KD at *
  generalize crText rs = TT at *
  simp [c5019, h38, F38, pF, hF]

/-! ### The laws -/

theorem crNode_node (x : CrF) (v : List UInt8) (q : Bool) : IsNode (crNode x v q) := by
  unfold crNode
  split
  · exact .mk _ _ _ _ _ _ _ [] (by simp) (by simp)
  · split
    · exact .mk _ _ _ _ _ _ _ [] (by simp) (by simp)
    · split
      · exact .mk _ _ _ _ _ _ _ [] (by simp) (by simp)
      · split
        · exact .mk _ _ _ _ _ _ _ [] (by simp) (by simp)
        · exact .mk _ _ _ _ _ _ _ [] (by simp) (by simp)

theorem crRec_node (r : RowD) : IsNode (crRec r) := by
  unfold crRec
  refine .mk _ _ _ _ _ _ _ _ (by rw [List.length_map, crTab_len]; omega) fun k hk => ?_
  obtain ⟨x, _, rfl⟩ := List.mem_map.1 hk
  exact crNode_node _ _ _

theorem crText_plain : ∀ rs : List RowD, (∀ r ∈ rs, crOk1 r = true) → ∀ c ∈ crText rs, plainC c = true
  | [], _ => by intro c hc; cases hc
  | r :: rs, h => by
    have ih := crText_plain rs (fun q hq => h q (by simp [hq]))
    obtain ⟨hw, _, ho⟩ := nameOk (h r (by simp))
    have hline : ∀ (f v : List UInt8), labOk f = true → (∀ c ∈ v, wordC c = true) → ∀ c ∈ crLine f v, plainC c = true := by
      intro f v hf hv c hc
      unfold labOk at hf
      simp only [Bool.and_eq_true, List.all_eq_true] at hf
      unfold crLine at hc
      rcases List.mem_append.1 hc with hc | hc
      · rcases leftS_mem hc with hc | rfl
        · exact (hf.1 c hc).1
        · decide
      · rcases List.mem_cons.1 hc with rfl | hc
        · decide
        · rcases List.mem_cons.1 hc with rfl | hc
          · decide
          · exact wordC_plain (hv c hc)
    have hpairs : ∀ (n : Nat) (l pre : List (List UInt8)), l.length ≤ n → crOkS pre l = true → ∀ c ∈ crPairs l, plainC c = true := by
      intro n
      induction n with
      | zero =>
        intro l pre hl _ c hc
        have : l = [] := List.eq_nil_of_length_eq_zero (by omega)
        subst this
        cases hc
      | succ n ih =>
        intro l pre hl hok c hc
        match l with
        | [] => cases hc
        | [_] => cases hok
        | f :: v :: l =>
          unfold crOkS at hok
          rw [Bool.and_eq_true, Bool.and_eq_true] at hok
          obtain ⟨_, x, g2, g3, _, g5⟩ := crFine_find hok.1
          have hlo := crLab_ok x g2
          rw [g3] at hlo
          rw [crPairs_cons] at hc
          rcases List.mem_append.1 hc with hc | hc
          · exact hline f v hlo (fun c hc => ((crVal_word g5).2 c hc).1) c hc
          · rcases List.mem_cons.1 hc with rfl | hc
            · decide
            · exact ih l _ (by simp only [List.length_cons] at hl; omega) hok.2.2 c hc
    intro c hc
    rw [crText_cons] at hc
    rcases List.mem_append.1 hc with hc | hc
    · exact hline sName r.name sName_ok (fun c hc => (hw.2 c hc).1) c hc
    · rcases List.mem_cons.1 hc with rfl | hc
      · decide
      · rcases List.mem_append.1 hc with hc | hc
        · exact hpairs _ r.S [] (Nat.le_refl _) ho c hc
        · rcases List.mem_cons.1 hc with rfl | hc
          · decide
          · exact ih c hc

theorem crLaw : LawG crRd crOk crText crTree where
  back := fun rs _ ho => ⟨rfl, by
    unfold crOk at ho
    rw [List.all_eq_true] at ho
    exact List.all_eq_true.2 (crText_plain rs ho)⟩
  node := fun rs hf _ => by
    unfold crTree
    refine .mk _ _ _ _ _ _ _ _ (by rw [List.length_map]; have := hf.1; omega) fun k hk => ?_
    obtain ⟨r, _, rfl⟩ := List.mem_map.1 hk
    exact crRec_node r

def S9cr (F : List SV → Option AV) : Prop := S9g 20 18 19 F
def S13cr (F : List SV → Option AV) : Prop := S9g 20 17 19 F
def S1016cr (F : List SV → Option AV) : Prop := S1016g 17 18 19 F

theorem ev9cr (E : Env) (h : E.code 16 = some c9) (hR : Has E 20 S5020) (hT : Has E 18 S5018) (hD : Has E 19 S5019) (h25 : E.pure 22 = some F25) (h26 : E.pure 23 = some F26) (h27 : E.pure 24 = some F27) : S9cr (autoF E 16) := ev9G crLaw E h _ _ _ hR hT hD h25 h26 h27
theorem ev13cr (E : Env) (h : E.code 14 = some c13) (hR : Has E 20 S5020) (hP : Has E 17 S5017) (hD : Has E 19 S5019) (h25 : E.pure 22 = some F25) (h26 : E.pure 23 = some F26) (h27 : E.pure 24 = some F27) : S13cr (autoF E 14) := ev13G crLaw E h _ _ _ hR hP hD h25 h26 h27
theorem ev1016cr (E : Env) (h : E.code 10 = some c1016) (hP : Has E 17 S5017) (hT : Has E 18 S5018) (hD : Has E 19 S5019) (h25 : E.pure 22 = some F25) (h26 : E.pure 23 = some F26) (h27 : E.pure 24 = some F27) : S1016cr (autoF E 10) := ev1016G crLaw E h _ _ _ hP hT hD h25 h26 h27

theorem ev5008 (E : Env) (h : E.code 8 = some c5008) (hL : Has E 16 S9cr) (s : List UInt8) (n : Nat) : evP E n 8 [.str s] = some (.sv (.bool true)) := by
  obtain ⟨F, hp, hF⟩ := hL
  have hF1 := hF s
  unfold evP
  simp only [h]
  by_cases hs : 2147483647 < s.length
  · have e : (2147483647 : Int) < (s.length : Int) := by omega
    simp [c5008, List.replicate, e]
  · have e : ¬ (2147483647 : Int) < (s.length : Int) := by omega
    simp [c5008, List.replicate, e, hp, hF1]

theorem ev5007 (E : Env) (h : E.code 7 = some c5007) (hL : Has E 14 S13cr) (s : List UInt8) (n : Nat) : evP E n 7 [.str s] = some (.sv (.bool true)) := by
  obtain ⟨F, hp, hF⟩ := hL
  have hF1 := hF s
  unfold evP
  simp only [h]
  by_cases hs : 2147483647 < s.length
  · have e : (2147483647 : Int) < (s.length : Int) := by omega
    simp [c5007, List.replicate, e]
  · have e : ¬ (2147483647 : Int) < (s.length : Int) := by omega
    simp [c5007, List.replicate, e, hp, hF1]

theorem ev5006 (E : Env) (h : E.code 6 = some c5006) (h15 : E.pure 9 = some F1015) (h16 : Has E 10 S1016cr) (l : List RowD) (hn : ∀ r ∈ l, ∀ n ∈ r.N, n < 18446744073709551616) (n : Nat) : evP E n 6 [.sl (rowsSV l)] = some (.sv (.bool true)) := by
  obtain ⟨G, hp, hG⟩ := h16
  unfold evP
  simp only [h]
  have hF := F1015_eq l
  cases hz : zzRows l with
  | false => rw [hz] at hF; simp [c5006, List.replicate, h15, hF]
  | true =>
    rw [hz] at hF
    have hF2 := hG l hz hn
    simp [c5006, List.replicate, h15, hF, hp, hF2]

end Go.Ev

set_option linter.unusedSimpArgs false
set_option linter.unusedVariables false
namespace Go.Ev
open Go.Proofs
variable {P : Program} {E : Env}

theorem ev5018c (E : Env) (h : E.code 18 = some c5018) (hP : Has E 17 S5017) (h81 : E.pure 45 = some F81) (hB : Has E 46 S2110) (hT : E.pure 47 = some F34) (hN1 : Has E 48 S1114c) (hI : E.pure 49 = some F66) (hU : Has E 50 S35w) (hN : Has E 44 S5044) (h33 : E.pure 30 = some F33) (h36 : E.pure 51 = some F36) : S5018 (autoF E 18) :=
  ev5018 E h hP ⟨h81, hB, hT, hN1, hI, hU⟩ hN h33 h36

theorem ev5100c (E : Env) (h : E.code 100 = some c5100) (h29 : E.code 129 = some c5129) (h39 : E.code 139 = some c5139) (h40 : E.code 140 = some c5140) (h41 : E.code 141 = some c5141) (h42 : E.code 142 = some c5142) (h55 : E.code 155 = some c5155) (p39 : E.pure 139 = none) (p40 : E.pure 140 = none) (p41 : E.pure 141 = none) (p42 : E.pure 142 = none) (p55 : E.pure 155 = none) (h91 : Has E 124 S91) (h58 : Has E 162 S1158z) (h88 : E.code 75 = some c88) (h90 : E.code 77 = some c90) (p88 : E.pure 75 = none) (p90 : E.pure 77 = none) (p29 : E.pure 129 = none) (q130 : E.pure 126 = some F130) (q57 : Has E 127 S1157) (q93 : Has E 128 S3193g) (h87 : E.code 74 = some c87) (h128 : E.code 85 = some c128) (hp87 : E.pure 74 = none) (hp128 : E.pure 85 = none) : S5100 (autoF E 100) :=
  ev5100 E h ⟨⟨h29, h39, h40, h41, h42, h55, p39, p40, p41, p42, p55, h91, h58⟩, h88, h90, p88, p90, p29, q130, q57, q93⟩ h87 h128 hp87 hp128

/-- A law of one text. -/
theorem ptOf (B : Base P E) {f : Nat} (h : ∀ s n, evP E n f [.str s] = some (.sv (.bool true))) : PureFn P E f F8x := by
  refine PureFn.of B.m B.T B.Q B.P fun vs r hF => ?_
  unfold F8x at hF
  split at hF
  · rename_i s
    simp only [Option.some.injEq] at hF; subst hF
    exact ⟨1, _, h s 1, .inl rfl⟩
  · cases hF

/-- A law of rows. -/
theorem pbOf (B : Base P E) {f : Nat} (h : ∀ l : List RowD, (∀ r ∈ l, ∀ n ∈ r.N, n < 18446744073709551616) → ∀ n, evP E n f [.sl (rowsSV l)] = some (.sv (.bool true))) : PureFn P E f F1003 := by
  refine PureFn.of B.m B.T B.Q B.P fun vs r hF => ?_
  unfold F1003 at hF
  split at hF
  · rename_i l
    obtain ⟨⟨h1, h2⟩, hr⟩ := onlyIf_some hF
    simp only [Option.some.injEq] at hr; subst hr
    refine ⟨1, _, ?_, .inl rfl⟩
    have := h (l.map unrow) h2 1
    rw [← h1] at this
    exact this
  · cases hF

end Go.Ev

set_option linter.unusedSimpArgs false
set_option linter.unusedVariables false
namespace Go.Proofs.YtgeaomghbiamgaaGreatDoor
open Go.ChangeShapes Go.WideShapes Go.ChangeAt Go.RowKit Go.Ev

theorem own : ownKnob Tryz.prog.godebug = none := by kernel_rfl

def laid15 : List (String × DataW Unit) := Rows.fnCryptoBackRow.laid

theorem glob_none {W : World} {F : Frz} (g : Nat) (h : globT g = []) : RepS F (.ref (globT g)) (.pointer (some ⟨g, 0, none⟩)) := by
  rw [h]
  exact .ref [] g 0 (fun _ => undef) (fun j hj => by simp at hj) (fun j x hx => by simp at hx) (fun j x hx => by simp at hx)

theorem cells_of {W : World} {name : String} {g : Nat} {cs : Array Value} (hg : Tryz.prog.globalNamed name = some g) (hv : W.var? Tryz.prog name = some cs) (j : Nat) (v : Value) (h : cs.toList[j]? = some v) : W.cell? ⟨g, j, none⟩ = some v := by
  rw [World.var?_cell hg hv j]
  simpa using h

theorem glob_ok {W : World} (hL : laidMetH Tryz.prog laid15 W) : GlobF E0 (fun b o v => W.cell? ⟨b, o, none⟩ = some v) := by
  rw [MakeChecks.laidMetH_plain _ _ _ (by kernel_rfl)] at hL
  obtain ⟨ps, ⟨g0, t0, cs0, f0, p0, q0, hg0, ht0, hv0, hd0, ⟨g1, t1, cs1, f1, p1, q1, hg1, ht1, hv1, hd1, ⟨g2, t2, cs2, f2, p2, q2, hg2, ht2, hv2, hd2, ⟨g3, t3, cs3, f3, p3, q3, hg3, ht3, hv3, hd3, ⟨g4, t4, cs4, f4, p4, q4, hg4, ht4, hv4, hd4, ⟨g5, t5, cs5, f5, p5, q5, hg5, ht5, hv5, hd5, ⟨g6, t6, cs6, f6, p6, q6, hg6, ht6, hv6, hd6, ⟨g7, t7, cs7, f7, p7, q7, hg7, ht7, hv7, hd7, ⟨g8, t8, cs8, f8, p8, q8, hg8, ht8, hv8, hd8, ⟨g9, t9, cs9, f9, p9, q9, hg9, ht9, hv9, hd9, ⟨g10, t10, cs10, f10, p10, q10, hg10, ht10, hv10, hd10, ⟨g11, t11, cs11, f11, p11, q11, hg11, ht11, hv11, hd11, ⟨g12, t12, cs12, f12, p12, q12, hg12, ht12, hv12, hd12, ⟨g13, t13, cs13, f13, p13, q13, hg13, ht13, hv13, hd13, _, _⟩, _⟩, _⟩, _⟩, _⟩, _⟩, _⟩, _⟩, _⟩, _⟩, _⟩, _⟩, _⟩, _⟩, _⟩ := hL
  clear hd0 hd1 hd5 hd7 hd9 hd10 hd11 hd12
  obtain rfl := Option.some.inj ((show Tryz.prog.globalNamed "internal/strconv.float32info" = some 7 by kernel_rfl).symm.trans hg2)
  obtain rfl := Option.some.inj ((show Tryz.prog.globalNamed "internal/strconv.float64info" = some 9 by kernel_rfl).symm.trans hg3)
  obtain rfl := Option.some.inj ((show Tryz.prog.globalNamed "internal/strconv.optimize" = some 8 by kernel_rfl).symm.trans hg4)
  obtain rfl := Option.some.inj ((show Tryz.prog.globalNamed "internal/strconv.float64pow10" = some 12 by kernel_rfl).symm.trans hg6)
  obtain rfl := Option.some.inj ((show Tryz.prog.globalNamed "internal/strconv.uint64pow10" = some 13 by kernel_rfl).symm.trans hg8)
  obtain rfl := Option.some.inj ((show Tryz.prog.globalNamed "strings.asciiSpace" = some 1 by kernel_rfl).symm.trans hg13)
  obtain rfl := Option.some.inj ((show (Tryz.prog.globals[7]?).map (·.type) = some 252 by kernel_rfl).symm.trans ht2)
  obtain rfl := Option.some.inj ((show (Tryz.prog.globals[9]?).map (·.type) = some 252 by kernel_rfl).symm.trans ht3)
  obtain rfl := Option.some.inj ((show (Tryz.prog.globals[8]?).map (·.type) = some 4 by kernel_rfl).symm.trans ht4)
  obtain rfl := Option.some.inj ((show (Tryz.prog.globals[12]?).map (·.type) = some 200 by kernel_rfl).symm.trans ht6)
  obtain rfl := Option.some.inj ((show (Tryz.prog.globals[13]?).map (·.type) = some 291 by kernel_rfl).symm.trans ht8)
  obtain rfl := Option.some.inj ((show (Tryz.prog.globals[1]?).map (·.type) = some 172 by kernel_rfl).symm.trans ht13)
  have x13 : Rows.laid_strings_asciiSpace = (.agg ((lits Rows.laid_strings_asciiSpace).map .lit) : DataW Unit) := by kernel_rfl
  have x8 : Rows.laid_internal_strconv_uint64pow10 = (.agg ((lits Rows.laid_internal_strconv_uint64pow10).map .lit) : DataW Unit) := by kernel_rfl
  have x2 : Rows.laid_internal_strconv_float32info = (.agg ((lits Rows.laid_internal_strconv_float32info).map .lit) : DataW Unit) := by kernel_rfl
  have x3 : Rows.laid_internal_strconv_float64info = (.agg ((lits Rows.laid_internal_strconv_float64info).map .lit) : DataW Unit) := by kernel_rfl
  have x4 : Rows.laid_internal_strconv_optimize = (.lit (unlit Rows.laid_internal_strconv_optimize) : DataW Unit) := by kernel_rfl
  have x6 : Rows.laid_internal_strconv_float64pow10 = (.slice ((lits Rows.laid_internal_strconv_float64pow10).map .lit) [] : DataW Unit) := by kernel_rfl
  have y13 := (congrArg (fun d => some (d, p13)) x13)
  have k13 := lits_of_array (e := 5) (n := 256) Tryz.underlying172 (by kernel_rfl) (by kernel_rfl) (hd13.trans (congrArg (fun d => some (d, p13)) x13))
  have k8 := lits_of_array (e := 39) (n := 20) Tryz.underlying291 (by kernel_rfl) (by kernel_rfl) (hd8.trans (congrArg (fun d => some (d, p8)) x8))
  have hst : ∀ (i : Nat) (f : Field), (#[{ name := "mantbits", type := 216, offset := 0, embedded := false, tag := "", pkgPath := "internal/strconv", byteOffset := 0 }, { name := "expbits", type := 216, offset := 1, embedded := false, tag := "", pkgPath := "internal/strconv", byteOffset := 8 }, { name := "bias", type := 3, offset := 2, embedded := false, tag := "", pkgPath := "internal/strconv", byteOffset := 16 }] : Array Field)[i]? = some f → f.offset = i ∧ Tryz.prog.cellsOf f.type = 1 := by
    intro i f hf
    have ct174 : Tryz.prog.cellsOf 216 = 1 := by kernel_rfl
    have ct3 : Tryz.prog.cellsOf 3 = 1 := by kernel_rfl
    match i, hf with
    | 0, hf => simp at hf; subst hf; exact ⟨rfl, ct174⟩
    | 1, hf => simp at hf; subst hf; exact ⟨rfl, ct174⟩
    | 2, hf => simp at hf; subst hf; exact ⟨rfl, ct3⟩
    | n + 3, hf => simp at hf
  have k2 := lits_of_struct Tryz.underlying252 hst (by kernel_rfl) (hd2.trans (congrArg (fun d => some (d, p2)) x2))
  have k3 := lits_of_struct Tryz.underlying252 hst (by kernel_rfl) (hd3.trans (congrArg (fun d => some (d, p3)) x3))
  have k4 := lit_cells (hd4.trans (congrArg (fun d => some (d, p4)) x4))
  have k6 := ref_of_slice (g := 12) (F := fun b o v => W.cell? ⟨b, o, none⟩ = some v) (e := 40) Tryz.underlying200 (by kernel_rfl) (by rw [← List.length_pos_iff]; exact of_decide_eq_true (by kernel_rfl)) (hd6.trans (congrArg (fun d => some (d, p6)) x6)) (fun _ _ _ h => h) (cells_of hg6 hv6)
  intro g
  have hg : g = 1 ∨ g = 7 ∨ g = 8 ∨ g = 9 ∨ g = 13 ∨ g = 12 ∨ globT g = [] := by
    unfold globT
    split <;> simp
  rcases hg with rfl | rfl | rfl | rfl | rfl | rfl | h
  · exact ref_of_lits k13 (cells_of hg13 hv13)
  · exact ref_of_lits k2 (cells_of hg2 hv2)
  · exact ref_of_lits (ls := [unlit Rows.laid_internal_strconv_optimize]) k4 (cells_of hg4 hv4)
  · exact ref_of_lits k3 (cells_of hg3 hv3)
  · exact ref_of_lits k8 (cells_of hg8 hv8)
  · exact k6
  · exact glob_none (W := W) g h

end Go.Proofs.YtgeaomghbiamgaaGreatDoor

set_option linter.unusedSimpArgs false
set_option linter.unusedVariables false
namespace Go.Ev
open Go.Proofs Go.ChangeShapes Go.WideShapes

/-- The cells of a world, all of them. -/
def allC (w : World) : Frz := fun b o v => w.cell? ⟨b, o, none⟩ = some v

theorem spot_none {w : World} {a : Addr} {v : Value} (h : w.cell? a = some v) : a.spot = none := by
  unfold World.cell? at h
  split at h
  · split at h
    · simp at h
    · rename_i hs; simpa using hs
  · simp at h

theorem add_off {b o : Nat} (i : Nat) : (⟨b, o, none⟩ : Addr).add i = ⟨b, o + i, none⟩ := by
  unfold Addr.add
  split
  · rename_i h; subst h; rfl
  · rfl

/-- A slice whose elements take k cells each. -/
theorem rep_slice {w : World} {a : Addr} {len cap k : Nat} {xs : List SV} (hk : 0 < k) (hx : xs.length = len) (hcap : len ≤ cap) (hl : ∀ x ∈ xs, x.cells.length = k)
    (ho : ∀ (j : Nat) (x : SV), (flat xs)[j]? = some x → x.one = true) (hr : ∀ (j : Nat) (x : SV), (flat xs)[j]? = some x → ∃ v, w.cell? (a.add j) = some v ∧ RepS (allC w) x v) : RepS (allC w) (.sl xs) (.slice (some a) len cap) := by
  cases xs with
  | nil => simp only [List.length_nil] at hx; subst hx; exact .slE _ _
  | cons x xs =>
    subst hx
    have hfl : (flat (x :: xs)).length = (x :: xs).length * k := by
      have : ∀ ys : List SV, (∀ y ∈ ys, y.cells.length = k) → (flat ys).length = ys.length * k := by
        intro ys
        induction ys with
        | nil => intro _; simp [flat]
        | cons y ys ih => intro h; rw [flat_cons, List.length_append, ih (fun z hz => h z (by simp [hz])), h y (by simp), List.length_cons, Nat.succ_mul]; omega
      exact this _ hl
    have hpos : 0 < (flat (x :: xs)).length := by rw [hfl]; exact Nat.mul_pos (by simp) hk
    obtain ⟨v0, hv0, _⟩ := hr 0 _ (List.getElem?_eq_getElem hpos)
    have hs : a.spot = none := spot_none (by simpa [Addr.add] using hv0)
    obtain ⟨b, o, s⟩ := a
    simp only at hs
    subst hs
    refine .sl _ b o cap k (fun j => (w.cell? ⟨b, o + j, none⟩).getD undef) hk (by simp) hcap hl (fun j hj => ?_) ho (fun j y hy => ?_)
    · obtain ⟨v, hv, _⟩ := hr j _ (List.getElem?_eq_getElem (by rw [hfl]; exact hj))
      rw [add_off] at hv
      show w.cell? ⟨b, o + j, none⟩ = some _
      rw [hv]; rfl
    · obtain ⟨v, hv, h1⟩ := hr j y hy
      rw [add_off] at hv
      simp only [hv, Option.getD_some]
      exact h1

theorem flat_one {l : List SV} (h : ∀ x ∈ l, x.cells = [x]) : flat l = l := by
  induction l with
  | nil => rfl
  | cons x l ih => rw [flat_cons, h x (by simp), ih (fun y hy => h y (by simp [hy]))]; rfl

section
variable {H : Type} {enc : TypeId × Value → H} {P : Program} {w : World} {base : Nat} {spare : Nat → Bool} {held : Bool}

theorem rep_strs {t e : TypeId} {fuel : Nat} {cs : List Value} {x : DataW H × List MemPlace} (ht : P.underlying t = some (.slice e)) (he : P.underlying e = some .string) (hc : P.cellsOf e = 1)
    (h : DataW.trod enc P w base spare held fuel t cs = some x) : ∃ (v : Value) (S : List (List UInt8)), cs = [v] ∧ RepS (allC w) (.sl (Ev.strs S)) v := by
  rcases open_strings ht he hc h with ⟨rfl, _⟩ | ⟨a, len, cap, ss, rfl, _, hl, _, hss, _, hcell, _⟩
  · exact ⟨_, [], rfl, .slE _ _⟩
  · have hle : len ≤ ss.length := by rw [hss]; split <;> omega
    refine ⟨_, (ss.take len).map (fun s => s.data.toList), rfl, ?_⟩
    have hone : ∀ x ∈ Ev.strs ((ss.take len).map (fun s => s.data.toList)), x.cells = [x] := by
      intro x hx
      simp only [Ev.strs, List.mem_map] at hx
      obtain ⟨_, _, rfl⟩ := hx
      rfl
    refine rep_slice (k := 1) (by omega) (by simp [Ev.strs]; omega) hl (fun x hx => by rw [hone x hx]; rfl) (fun j x hx => ?_) (fun j x hx => ?_)
    · rw [flat_one hone] at hx
      simp only [Ev.strs, List.getElem?_map, Option.map_eq_some_iff] at hx
      obtain ⟨_, _, rfl⟩ := hx
      rfl
    · rw [flat_one hone] at hx
      simp only [Ev.strs, List.getElem?_map, Option.map_eq_some_iff] at hx
      obtain ⟨_, ⟨s, hs, rfl⟩, rfl⟩ := hx
      have hj : j < len := by have := (List.getElem?_eq_some_iff.1 hs).1; simp at this; omega
      rw [List.getElem?_take_of_lt hj] at hs
      refine ⟨_, hcell j (by omega), ?_⟩
      rw [List.getD_eq_getElem?_getD, hs]
      have e : (⟨s.data.toList.toArray⟩ : ByteArray) = s := by simp
      exact e ▸ RepS.str s.data.toList

theorem rep_ints {t e : TypeId} {fuel : Nat} {cs : List Value} {x : DataW H × List MemPlace} (ht : P.underlying t = some (.slice e)) (he : P.underlying e = some (.int .u64)) (hc : P.cellsOf e = 1)
    (h : DataW.trod enc P w base spare held fuel t cs = some x) : ∃ (v : Value) (N : List Nat), cs = [v] ∧ RepS (allC w) (.sl (u64s N)) v ∧ ∀ n ∈ N, n < 18446744073709551616 := by
  rcases open_ints ht he hc h with ⟨rfl, _⟩ | ⟨a, len, cap, zs, rfl, _, hl, _, hss, _, hcell, hwf⟩
  · exact ⟨_, [], rfl, .slE _ _, by simp⟩
  · have hle : len ≤ zs.length := by rw [hss]; split <;> omega
    have hz : ∀ z ∈ zs, 0 ≤ z ∧ z < 18446744073709551616 := by
      intro z hz
      have := hwf z hz
      have e1 : IntKind.u64.min = 0 := rfl
      have e2 : IntKind.u64.max = 18446744073709551615 := rfl
      simp only [Lit.wf, e1, e2, Bool.and_eq_true, decide_eq_true_eq] at this
      omega
    refine ⟨_, (zs.take len).map Int.toNat, rfl, ?_, ?_⟩
    · have hone : ∀ x ∈ u64s ((zs.take len).map Int.toNat), x.cells = [x] := by
        intro x hx
        simp only [u64s, List.mem_map] at hx
        obtain ⟨_, _, rfl⟩ := hx
        rfl
      refine rep_slice (k := 1) (by omega) (by simp [u64s]; omega) hl (fun x hx => by rw [hone x hx]; rfl) (fun j x hx => ?_) (fun j x hx => ?_)
      · rw [flat_one hone] at hx
        simp only [u64s, List.getElem?_map, Option.map_eq_some_iff] at hx
        obtain ⟨_, _, rfl⟩ := hx
        rfl
      · rw [flat_one hone] at hx
        simp only [u64s, List.getElem?_map, Option.map_eq_some_iff] at hx
        obtain ⟨_, ⟨s, hs, rfl⟩, rfl⟩ := hx
        have hj : j < len := by have := (List.getElem?_eq_some_iff.1 hs).1; simp at this; omega
        rw [List.getElem?_take_of_lt hj] at hs
        refine ⟨_, hcell j (by omega), ?_⟩
        rw [List.getD_eq_getElem?_getD, hs]
        have := (hz s (List.mem_of_getElem? hs)).1
        rw [Int.toNat_of_nonneg this]
        exact .int _ _
    · intro n hn
      obtain ⟨z, hz1, rfl⟩ := List.mem_map.1 hn
      have := hz z (List.mem_of_mem_take hz1)
      omega

/-- One row: three cells. -/
theorem rep_row {t te tu : TypeId} {fs : Array Field} {f0 f1 f2 : Field} {fuel : Nat} {cs : List Value} {x : DataW H × List MemPlace} (ht : P.underlying t = some (.struct fs)) (hf0 : fs[0]? = some f0) (hf1 : fs[1]? = some f1) (hf2 : fs[2]? = some f2)
    (o0 : f0.offset = 0) (o1 : f1.offset = 1) (o2 : f2.offset = 2) (c0 : P.cellsOf f0.type = 1) (c1 : P.cellsOf f1.type = 1) (c2 : P.cellsOf f2.type = 1) (ct : P.cellsOf t = 3)
    (u0 : P.underlying f0.type = some .string) (u1 : P.underlying f1.type = some (.slice tu)) (u2 : P.underlying f2.type = some (.slice te)) (v1 : P.underlying tu = some (.int .u64)) (v2 : P.underlying te = some .string) (w1 : P.cellsOf tu = 1) (w2 : P.cellsOf te = 1)
    (h : DataW.trod enc P w base spare held fuel t cs = some x) : ∃ (r : RowD) (a b c : Value), cs = [a, b, c] ∧ RepS (allC w) (.str r.name) a ∧ RepS (allC w) (.sl (u64s r.N)) b ∧ RepS (allC w) (.sl (Ev.strs r.S)) c ∧ ∀ n ∈ r.N, n < 18446744073709551616 := by
  obtain ⟨xs, n, rfl, _, hcl, hxl, hx⟩ := DataW.trod_struct ht h
  rw [ct] at hcl
  match cs, hcl with
  | [a, b, c], _ =>
    have hlt : ∀ {i : Nat} {f : Field}, fs[i]? = some f → i < xs.length := fun hf => by rw [hxl]; exact (Array.getElem?_eq_some_iff.1 hf).1
    have g0 := hx 0 f0 hf0
    have g1 := hx 1 f1 hf1
    have g2 := hx 2 f2 hf2
    rw [List.getElem?_eq_getElem (hlt hf0), o0, c0] at g0
    rw [List.getElem?_eq_getElem (hlt hf1), o1, c1] at g1
    rw [List.getElem?_eq_getElem (hlt hf2), o2, c2] at g2
    simp only [List.drop_zero, List.drop_succ_cons, List.take_succ_cons, List.take_zero] at g0 g1 g2
    obtain ⟨s, e0, _, _⟩ := DataW.trod_string u0 g0
    obtain ⟨b', N, e1, r1, k1⟩ := rep_ints u1 v1 w1 g1
    obtain ⟨c', S, e2, r2⟩ := rep_strs u2 v2 w2 g2
    simp only [List.cons.injEq, and_true] at e0 e1 e2
    subst e0; subst e1; subst e2
    refine ⟨⟨s.data.toList, N, S⟩, _, _, _, rfl, ?_, r1, r2, k1⟩
    have e : (⟨s.data.toList.toArray⟩ : ByteArray) = s := by simp
    exact e ▸ RepS.str s.data.toList

end

theorem row_cells (r : RowD) : r.sv.cells = [.str r.name, .sl (u64s r.N), .sl (Ev.strs r.S)] := rfl

theorem flat_rows_get : ∀ (l : List RowD) (j : Nat) (x : SV), (flat (rowsSV l))[j]? = some x → ∃ r, l[j / 3]? = some r ∧ (r.sv.cells)[j % 3]? = some x
  | [], j, x, h => by simp [rowsSV, flat] at h
  | r :: l, j, x, h => by
    have e : flat (rowsSV (r :: l)) = r.sv.cells ++ flat (rowsSV l) := rfl
    rw [e] at h
    by_cases hj : j < 3
    · rw [List.getElem?_append_left (by rw [row_cells]; simpa using hj)] at h
      refine ⟨r, ?_, ?_⟩
      · rw [Nat.div_eq_of_lt hj]; rfl
      · rw [Nat.mod_eq_of_lt hj]; exact h
    · rw [List.getElem?_append_right (by rw [row_cells]; simp; omega)] at h
      have e3 : r.sv.cells.length = 3 := rfl
      rw [e3] at h
      obtain ⟨q, h1, h2⟩ := flat_rows_get l (j - 3) x h
      refine ⟨q, ?_, ?_⟩
      · rw [show j / 3 = (j - 3) / 3 + 1 by omega]; exact h1
      · rw [show j % 3 = (j - 3) % 3 by omega]; exact h2

/-- Rows, out of rows that can be read one by one. -/
theorem rep_rows {w : World} {a : Addr} {len cap : Nat} {base : Nat} (hcap : len ≤ cap)
    (h : ∀ i, i < len → ∃ (r : RowD) (u v z : Value), w.cells? base (a.add (i * 3)) 3 = some [u, v, z] ∧ RepS (allC w) (.str r.name) u ∧ RepS (allC w) (.sl (u64s r.N)) v ∧ RepS (allC w) (.sl (Ev.strs r.S)) z ∧ ∀ n ∈ r.N, n < 18446744073709551616) :
    ∃ l : List RowD, l.length = len ∧ RepS (allC w) (.sl (rowsSV l)) (.slice (some a) len cap) ∧ ∀ r ∈ l, ∀ n ∈ r.N, n < 18446744073709551616 := by
  classical
  let f : Nat → RowD := fun i => if hi : i < len then Classical.choose (h i hi) else ⟨[], [], []⟩
  have hf : ∀ i (hi : i < len), ∃ (u v z : Value), w.cells? base (a.add (i * 3)) 3 = some [u, v, z] ∧ RepS (allC w) (.str (f i).name) u ∧ RepS (allC w) (.sl (u64s (f i).N)) v ∧ RepS (allC w) (.sl (Ev.strs (f i).S)) z ∧ ∀ n ∈ (f i).N, n < 18446744073709551616 := by
    intro i hi
    have := Classical.choose_spec (h i hi)
    simp only [f, dif_pos hi]
    exact this
  refine ⟨(List.range len).map f, by simp, ?_, ?_⟩
  · refine rep_slice (k := 3) (by omega) (by simp [rowsSV]) hcap (fun x hx => ?_) (fun j x hx => ?_) (fun j x hx => ?_)
    · simp only [rowsSV, List.mem_map] at hx
      obtain ⟨r, _, rfl⟩ := hx
      rfl
    · obtain ⟨r, _, h2⟩ := flat_rows_get _ j x hx
      rw [row_cells] at h2
      have : x ∈ [SV.str r.name, .sl (u64s r.N), .sl (Ev.strs r.S)] := List.mem_of_getElem? h2
      simp only [List.mem_cons, List.not_mem_nil, or_false] at this
      rcases this with rfl | rfl | rfl <;> rfl
    · obtain ⟨r, h1, h2⟩ := flat_rows_get _ j x hx
      rw [List.getElem?_map, Option.map_eq_some_iff] at h1
      obtain ⟨i, hi, rfl⟩ := h1
      have hil : j / 3 < len := by have := (List.getElem?_eq_some_iff.1 hi).1; simpa using this
      have hij : i = j / 3 := by rw [List.getElem?_range hil] at hi; exact (Option.some.inj hi).symm
      subst hij
      obtain ⟨u, v, z, k1, k2, k3, k4, _⟩ := hf (j / 3) hil
      obtain ⟨_, _, k5⟩ := World.cells?_some k1
      have k6 := k5 (j % 3) (by omega)
      have ha : (a.add (j / 3 * 3)).add (j % 3) = a.add j := by
        unfold Addr.add
        by_cases q1 : j / 3 * 3 = 0
        · by_cases q2 : j % 3 = 0
          · have : j = 0 := by omega
            subst this; rfl
          · have : j % 3 = j := by omega
            rw [if_pos q1, this]
        · have q3 : j ≠ 0 := by omega
          by_cases q2 : j % 3 = 0
          · have : j / 3 * 3 = j := by omega
            rw [if_pos q2, this]
          · rw [if_neg q1, if_neg q2, if_neg q3]
            simp only [Addr.mk.injEq, true_and, and_true]
            omega
      rw [ha] at k6
      rw [row_cells] at h2
      have hm : j % 3 < 3 := Nat.mod_lt _ (by omega)
      generalize j % 3 = m at k6 h2 hm
      match m, hm with
      | 0, _ => simp at h2 k6; subst h2; exact ⟨u, k6, k2⟩
      | 1, _ => simp at h2 k6; subst h2; exact ⟨v, k6, k3⟩
      | 2, _ => simp at h2 k6; subst h2; exact ⟨z, k6, k4⟩
  · intro r hr
    obtain ⟨i, hi, rfl⟩ := List.mem_map.1 hr
    obtain ⟨_, _, _, _, _, _, _, k⟩ := hf i (by simpa using hi)
    exact k

end Go.Ev
