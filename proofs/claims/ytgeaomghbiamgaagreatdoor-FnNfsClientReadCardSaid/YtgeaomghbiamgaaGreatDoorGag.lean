/- Regions that draw their order, whatever is drawn. -/
/- Code: what the evaluator comes to is what the code comes to. -/
import Derived.Test.YtgeaomghbiamgaaGreatDoorGaf
import Derived.Scope
import Derived.LoopN
set_option linter.unusedSimpArgs false
set_option linter.unusedVariables false
namespace Go.Ev
variable {P : Program} {E : Env} {γ : Gh} {a : Act} {w : World} {s : St} {cf : CallF} {q : Bool} {s1 : St} {av : AV}

def unl (listed : Array Bool) : Nat := listed.toList.countP (fun b => !b)

theorem unl_set {listed : Array Bool} {i : Nat} (hi : i < listed.size) (hu : listed.getD i false = false) : unl (listed.setIfInBounds i true) + 1 = unl listed := by
  have hg : listed.toList[i]'(by simpa using hi) = false := by
    simp [Array.getD_eq_getD_getElem?, hi] at hu
    simpa using hu
  unfold unl
  rw [Array.toList_setIfInBounds, List.countP_set (by simpa using hi), hg]
  have : 0 < List.countP (fun b => !b) listed.toList := by
    rw [List.countP_pos_iff]
    exact ⟨false, by rw [← hg]; exact List.getElem_mem _, rfl⟩
  simp only [Bool.not_false, if_true, Bool.not_true, Bool.false_eq_true, if_false]
  omega

theorem unl_zero {listed : Array Bool} (h : unl listed = 0) : ∀ i, i < listed.size → listed.getD i false = true := by
  intro i hi
  unfold unl at h
  rw [List.countP_eq_zero] at h
  have := h listed[i] (by simp)
  simp [Array.getD_eq_getD_getElem?, hi]
  simpa using this

theorem set_p {listed : Array Bool} {i : Nat} (hi : i < listed.size) : (fun j => (listed.setIfInBounds i true).getD j false) = fun j => listed.getD j false || decide (j = i) := by
  funext j
  by_cases hij : i = j
  · subst hij; simp [Array.getD_eq_getD_getElem?, hi]
  · rw [getD_set_ne false hij]; simp [Ne.symm hij]

theorem st_ext {s s' : St} (hlen : s.tm.length = s'.tm.length) (hrd : ∀ t, s.rd t = s'.rd t) (hl : s.lz = s'.lz) (hb : s.bx = s'.bx) (hd : (s.df, s.lk, s.mu) = (s'.df, s'.lk, s'.mu)) : s = s' := by
  have htm : s.tm = s'.tm := by
    apply List.ext_getElem hlen
    intro t h1 h2
    have := hrd t
    simpa [St.rd, List.getD_eq_getElem?_getD, h1, h2] using this
  cases s; cases s'; simp_all

theorem HI.full {l : List SOp} {h : Nat} {s0 s2 : St} {p : Nat → Bool} (g2 : HI E cf l h s0 p s2) (hH : HI E cf l h s0 (fun j => decide (j < h)) (hs E cf l s0 h)) (hallh : ∀ j, j < h → p j = true) : s2 = hs E cf l s0 h := by
  refine st_ext (by rw [g2.len, hH.len]) (fun t => ?_) ?_ (by rw [g2.bx, hH.bx]) (by rw [g2.df, hH.df])
  · by_cases hkx : ∃ k ok, k < h ∧ l[k]? = some ok ∧ ok.op.kills = some t
    · obtain ⟨k, ok, hk, hok, hkk⟩ := hkx
      rw [g2.rdK k ok t hk hok hkk (hallh k hk), hH.rdK k ok t hk hok hkk (by simpa using hk)]
    by_cases hdx : ∃ j oj, j < h ∧ l[j]? = some oj ∧ oj.dst = some t
    · obtain ⟨j, oj, hj, hoj, hdj⟩ := hdx
      rw [g2.rdV j oj t hj hoj hdj (hallh j hj) (fun k ok h1 h2 h3 => absurd ⟨k, ok, h1, h2, h3⟩ hkx), hH.rdV j oj t hj hoj hdj (by simpa using hj) (fun k ok h1 h2 h3 => absurd ⟨k, ok, h1, h2, h3⟩ hkx)]
    · rw [g2.rdN t (fun j oj h1 h2 h3 => h3.elim (fun h3 => absurd ⟨j, oj, h1, h2, h3⟩ hdx) (fun h3 => absurd ⟨j, oj, h1, h2, h3⟩ hkx)), hH.rdN t (fun j oj h1 h2 h3 => h3.elim (fun h3 => absurd ⟨j, oj, h1, h2, h3⟩ hdx) (fun h3 => absurd ⟨j, oj, h1, h2, h3⟩ hkx))]
  · by_cases hlx : ∃ j oj, j < h ∧ l[j]? = some oj ∧ lazyOp oj.op = true
    · obtain ⟨j, oj, hj, hoj, hlj⟩ := hlx
      rw [g2.lzV j oj hj hoj hlj (hallh j hj), hH.lzV j oj hj hoj hlj (by simpa using hj)]
    · rw [g2.lzN (fun j oj h1 h2 h3 => absurd ⟨j, oj, h1, h2, h3⟩ hlx), hH.lzN (fun j oj h1 h2 h3 => absurd ⟨j, oj, h1, h2, h3⟩ hlx)]

theorem HI.congr {l : List SOp} {h : Nat} {s0 t : St} {p p' : Nat → Bool} (hp : ∀ i, i < h → p' i = p i) (g : HI E cf l h s0 p t) : HI E cf l h s0 p' t := by
  refine ⟨g.bx, g.df, g.len, fun u hu => g.rdN u (fun i o h1 h2 h3 => by rw [← hp i h1]; exact hu i o h1 h2 h3), fun i o u h1 h2 h3 h4 h5 => g.rdV i o u h1 h2 h3 (by rw [← hp i h1]; exact h4) (fun k ok k1 k2 k3 => by rw [← hp k k1]; exact h5 k ok k1 k2 k3), fun k o u h1 h2 h3 h4 => g.rdK k o u h1 h2 h3 (by rw [← hp k h1]; exact h4), fun hn => g.lzN (fun i o h1 h2 h3 => by rw [← hp i h1]; exact hn i o h1 h2 h3), fun i o h1 h2 h3 h4 => g.lzV i o h1 h2 h3 (by rw [← hp i h1]; exact h4)⟩

/-- With the new variable made. -/
def addN (n d : Nat) (z : List SV) (t : St) : St := { (t.put (some d) (.ptr n 0)) with bx := t.bx ++ [.live (z.map .sv)] }

theorem opRun_new {l : List SOp} {n d : Nat} {z : List SV} {t : St} (hn : t.bx.length = n) : opRun E cf false l { dst := some d, op := .new z, guard := none } t = some (addN n d z t) := by
  subst hn
  rfl

theorem rd_setL (s : St) (t u : Nat) (v : AV) : ({ s with tm := s.tm.set t v } : St).rd u = if u = t ∧ t < s.tm.length then v else s.rd u := by
  simp only [St.rd, List.getD_eq_getElem?_getD, List.getElem?_set]
  by_cases h : t = u
  · subst h
    by_cases hl : t < s.tm.length
    · simp [hl]
    · simp [hl]
  · rw [if_neg h, if_neg (fun e => h e.1.symm)]

theorem addN_comm {n d : Nat} {z : List SV} {t : St} {k : Option Nat} {dst : Option Nat} {v : AV} (hk : k ≠ some d) (hd : dst ≠ some d) (hz : t.lz = none) : fin ((addN n d z t).forgetO k) dst v none = addN n d z (fin (t.forgetO k) dst v none) := by
  cases k with
  | none =>
    cases dst with
    | none => rfl
    | some x =>
      have hx : x ≠ d := fun e => hd (by rw [e])
      simp only [fin, addN, St.put, St.set, St.forgetO, hz, clearTmp]
      rw [List.set_comm _ _ (fun e => hx e.symm)]
  | some y =>
    have hy : y ≠ d := fun e => hk (by rw [e])
    cases dst with
    | none =>
      simp only [fin, addN, St.put, St.set, St.forgetO, St.forget, hz, clearTmp]
      rw [List.set_comm _ _ (fun e => hy e.symm)]
    | some x =>
      have hx : x ≠ d := fun e => hd (by rw [e])
      simp only [fin, addN, St.put, St.set, St.forgetO, St.forget, hz, clearTmp]
      congr 1
      rw [List.set_comm _ _ (fun e => hy e.symm), List.set_comm (l := (t.tm.set y _)) _ _ (fun e => hx e.symm)]

theorem opRun_addN {ops : Array Oper} {l : List SOp} {g n d : Nat} {z : List SV} {i : Nat} {o : SOp} (hD : DrawOK ops l g) (hN : NewOK l g d z) (hi : i < g) (ho : l[i]? = some o) {t t2 : St} (hz : t.lz = none) (h : opRun E cf true l o t = some t2) :
    opRun E cf true l o (addN n d z t) = some (addN n d z t2) := by
  have hlo := hN.lazy i o hi ho
  have hdn := hN.dst i o hi ho
  have hkn := hN.kill i o hi ho
  have hzz : (addN n d z t).lz = none := by simp only [addN, St.put, St.set, hz, clearTmp]
  have hrd : ∀ u ∈ o.looks l, (addN n d z t).rd u = t.rd u := by
    intro u hu
    have hne : u ≠ d := fun e => hN.looks i o hi ho (e ▸ hu)
    show ({ t with tm := t.tm.set d (.ptr n 0) } : St).rd u = _
    rw [rd_setL, if_neg (fun e => hne e.1)]
  obtain ⟨v, r, e1, e2, e3, _⟩ := opRun_local (s := t) (s' := addN n d z t) (e := [.live (z.map .sv)]) rfl (by simp [addN, St.put, St.set]) hrd (hD.head i o hi ho) h (fun hl => by rw [hlo] at hl; simp at hl) (fun hk => by
    obtain ⟨u, hu⟩ := Option.ne_none_iff_exists'.1 hk
    exact ⟨(hD.kill i o u hi ho hu).1, hz, hzz⟩)
  rw [e2, e1, e3 hlo, addN_comm hkn hdn hz]

/-- A store of a plain value changes the boxes alone, and looks at nothing else. -/
theorem doStore_sv {s s2 : St} {n : Option Nat} {pv : AV} {x : SV} {o : Opd} (h : doStore s n pv (.sv x) o = some s2) : s2 = { s with bx := s2.bx, lz := none } ∧ ∀ s' : St, s'.bx = s.bx → doStore s' n pv (.sv x) o = some { s' with bx := s2.bx, lz := none } := by
  unfold doStore at h
  split at h <;> try (simp at h; done)
  rename_i i off
  split at h <;> try (simp at h; done)
  rename_i cs hcs
  split at h
  · split at h <;> try (simp at h; done)
    rename_i hoff
    split at h <;> try (simp at h; done)
    · rename_i e; exact absurd e (by simp)
    · rename_i w hx1 hx2 hx3 hx4 e
      simp only [AV.sv.injEq] at e
      subst e
      simp only [Option.some.injEq] at h
      subst h
      refine ⟨rfl, fun s' hb => ?_⟩
      unfold doStore
      simp only [hb, hcs, hoff, if_true]
    · rename_i e; exact absurd e (by simp)
    · rename_i e; exact absurd e (by simp)
    · rename_i e; exact absurd e (by simp)
  · split at h <;> try (simp at h; done)
    rename_i vs e
    split at h <;> simp only [Option.some.injEq, reduceCtorEq] at h
    rename_i hl
    subst h
    refine ⟨rfl, fun s' hb => ?_⟩
    unfold doStore
    simp only [AV.sv.injEq] at e
    subst e
    simp only [hb, hcs]
    rw [if_pos hl]

/-- A part of an answer is a plain value. -/
theorem ext_sv {l : List SOp} {o : SOp} {s s1 : St} {y : Opd} {k u : Nat} (ho : o.op = .ext y k) (hd : o.dst = some u) (h : opRun E cf true l o s = some s1) : ∃ x, s1.rd u = .sv x := by
  have key : ∀ (t : St) (v : SV) (z : Option (Nat × Loc)), ∃ x, ({ (t.put (some u) (.sv v)) with lz := z } : St).rd u = .sv x := by
    intro t v z
    by_cases hu : u < t.tm.length
    · exact ⟨v, by simp [St.put, St.set, St.rd, List.getD_eq_getElem?_getD, hu]⟩
    · exact ⟨.undef, rd_big (by simp [St.put, St.set]; omega)⟩
  unfold opRun at h
  split at h
  · simp only [stepOp, pre_true, ho, hd, lazyAfter] at h
    split at h <;> try (simp at h; done)
    rename_i v s' hst
    simp only [stepV] at hst
    split at hst <;> try (simp at hst; done)
    split at hst <;> simp only [Option.some.injEq, Prod.mk.injEq, reduceCtorEq] at hst
    rename_i vs _ w _
    obtain ⟨rfl, rfl⟩ := hst
    simp only [Option.some.injEq] at h
    subst h
    exact key _ _ _
  · simp only [hd, Option.some.injEq] at h
    subst h
    by_cases hu : u < s.tm.length
    · exact ⟨.off, by simp [St.put, St.set, St.rd, List.getD_eq_getElem?_getD, hu]⟩
    · exact ⟨.undef, rd_big (by simp [St.put, St.set]; omega)⟩
  · simp at h

theorem opRun_setB {ops : Array Oper} {l : List SOp} {g : Nat} {i : Nat} {o : SOp} {B : List Box} (hD : DrawOK ops l g) (hi : i < g) (ho : l[i]? = some o) (hn : noBx o.op = true) (hlo : lazyOp o.op = false) (hk : o.op.kills = none) {t t2 : St} (h : opRun E cf true l o t = some t2) :
    opRun E cf true l o { t with bx := B } = some { t2 with bx := B } := by
  obtain ⟨v, r, e1, e2, e3, _⟩ := opRun_local2 (s := t) (s' := { t with bx := B }) (e := []) (.inr hn) rfl (fun _ _ => rfl) (hD.head i o hi ho) h (fun hl => by rw [hlo] at hl; simp at hl) (fun hk2 => absurd hk hk2)
  rw [e2, e1, e3 hlo, hk]
  cases hd : o.dst <;> rfl

/-- What of two operations that come at any time is done. -/
def ef (b1 b2 : Bool) (A B : St → St) (t : St) : St := if b2 then B t else if b1 then A t else t

/-- What is put together is a plain value. -/
theorem build_sv {l : List SOp} {o : SOp} {s s1 : St} {c : List SV} {ps : List (Nat × Nat × Opd)} {u : Nat} (ho : o.op = .build c ps) (hd : o.dst = some u) (h : opRun E cf true l o s = some s1) : ∃ x, s1.rd u = .sv x := by
  have key : ∀ (t : St) (v : SV) (z : Option (Nat × Loc)), ∃ x, ({ (t.put (some u) (.sv v)) with lz := z } : St).rd u = .sv x := by
    intro t v z
    by_cases hu : u < t.tm.length
    · exact ⟨v, by simp [St.put, St.set, St.rd, List.getD_eq_getElem?_getD, hu]⟩
    · exact ⟨.undef, rd_big (by simp [St.put, St.set]; omega)⟩
  unfold opRun at h
  split at h
  · simp only [stepOp, pre_true, ho, hd, lazyAfter] at h
    split at h <;> try (simp at h; done)
    rename_i v s' hst
    simp only [stepV] at hst
    split at hst <;> try (simp at hst; done)
    try split at hst
    all_goals try (simp at hst; done)
    all_goals simp only [Option.some.injEq, Prod.mk.injEq, reduceCtorEq] at hst
    all_goals obtain ⟨rfl, rfl⟩ := hst
    all_goals simp only [Option.some.injEq] at h
    all_goals subst h
    all_goals exact key _ _ _
  · simp only [hd, Option.some.injEq] at h
    subst h
    by_cases hu : u < s.tm.length
    · exact ⟨.off, by simp [St.put, St.set, St.rd, List.getD_eq_getElem?_getD, hu]⟩
    · exact ⟨.undef, rd_big (by simp [St.put, St.set]; omega)⟩
  · simp at h

section
variable {ops : Array Oper} {l : List SOp} {h : Nat} {s0 sF : St} {Q : Exit → Act → World → Prop} {γ0 : Gh} {w0 : World}

theorem any_ok (hP : PureOK P E) (hC : CfOK P E cf) (hl : allSome (ops.toList.map (cOper P ops)) = some l) (hD : DrawOK ops l h) (hT : tailFrom (allBefore ops.toList) = h) (hz0 : s0.lz = none)
    (hrun : ∀ j o, j < h → l[j]? = some o → opRun E cf true l o (hs E cf l s0 j) = some (hs E cf l s0 (j + 1))) (htail : runOps E cf false l (l.drop h) (hs E cf l s0 h) = some sF)
    (hQ : ∀ γ' a' w', Ext γ0 w0 γ' w' → R P γ' a' w' sF → Q .normal a' w') :
    ∀ (fuel : Nat) (listed : Array Bool) (γ : Gh) (a : Act) (w : World) (s : St), Clo ops listed → unl listed = fuel → R P γ a w s → GlobOK E γ → Ext γ0 w0 γ w →
      (((∃ i, i < h ∧ listed.getD i false = false) ∧ HI E cf l h s0 (fun j => listed.getD j false) s) ∨ ∃ k, h ≤ k ∧ (∀ i, i < ops.size → (listed.getD i false = true ↔ i < k)) ∧ runOps E cf false l (l.drop k) s = some sF) →
      wpAny P .any ops Q fuel listed a w := by
  have hall := hs_HI hD hz0 hrun
  have hend : ∀ (listed : Array Bool) (γ : Gh) (a : Act) (w : World) (s : St), Clo ops listed → R P γ a w s → Ext γ0 w0 γ w →
      (((∃ i, i < h ∧ listed.getD i false = false) ∧ HI E cf l h s0 (fun j => listed.getD j false) s) ∨ ∃ k, h ≤ k ∧ (∀ i, i < ops.size → (listed.getD i false = true ↔ i < k)) ∧ runOps E cf false l (l.drop k) s = some sF) →
      Region.ready .any ops listed = [] → Q .normal a w := by
    intro listed γ a w s hclo hR hE hor hnil
    rcases hor with ⟨hex, _⟩ | ⟨k, hk, hlist, hr⟩
    · obtain ⟨i, h1, h2, h3⟩ := first_un (p := fun j => listed.getD j false) hex
      have := first_ready hD.back hclo (i := i) (by have := hD.hle; have := hD.len; omega) h2 h3
      rw [hnil] at this; simp at this
    · have hks : ops.size ≤ k := by
        refine Decidable.byContradiction fun hn => ?_
        have hkl : k < ops.size := by omega
        have hu : listed.getD k false = false := by
          cases hx : listed.getD k false with
          | false => rfl
          | true => have := (hlist k hkl).1 hx; omega
        have := first_ready hD.back hclo hkl hu (fun j hj => (hlist j (by omega)).2 hj)
        rw [hnil] at this; simp at this
      rw [List.drop_eq_nil_of_le (by rw [hD.len]; exact hks)] at hr
      simp only [runOps, Option.some.injEq] at hr
      subst hr
      exact hQ γ a w hE hR
  intro fuel
  induction fuel with
  | zero =>
    intro listed γ a w s hclo hun hR hG hE hor
    have hz := unl_zero hun
    have hnil : Region.ready .any ops listed = [] := by
      cases hr : Region.ready .any ops listed with
      | nil => rfl
      | cons x xs =>
        have hx : x ∈ Region.ready .any ops listed := by rw [hr]; simp
        obtain ⟨h1, o, ho, _⟩ := mem_ready.1 hx
        have hxs := (Array.getElem?_eq_some_iff.1 ho).1
        have := hz x (by rw [hclo.size]; exact hxs)
        rw [getD_tf (by rw [hclo.size]; exact hxs), this] at h1
        simp at h1
    exact ⟨hnil, hend listed γ a w s hclo hR hE hor hnil⟩
  | succ fuel ih =>
    intro listed γ a w s hclo hun hR hG hE hor
    refine ⟨hend listed γ a w s hclo hR hE hor, fun i hi => ?_⟩
    obtain ⟨hu0, oi, hoi, hedges⟩ := mem_ready.1 hi
    have his := (Array.getElem?_eq_some_iff.1 hoi).1
    have hu : listed.getD i false = false := by rw [← getD_tf (by rw [hclo.size]; exact his)]; exact hu0
    have hbits := hclo.bits hD.back i oi hoi hedges
    have hun' : unl (listed.setIfInBounds i true) = fuel := by have := unl_set (by rw [hclo.size]; exact his) hu; omega
    have hclo' := hclo.set hi
    obtain ⟨so, hso, _⟩ := (all_get hl).2 i oi hoi
    have hset := set_p (listed := listed) (i := i) (by rw [hclo.size]; exact his)
    have hlb : ∀ k, k < ops.size → listed.getD k false = true → ∀ j, ((allBefore ops.toList).getD k 0).testBit j = true → listed.getD j false = true := fun k hk hlk j hj =>
      (hclo.bits hD.back k ops[k] (by simp [hk]) (fun e he hb => hclo.clo k _ (by simp [hk]) hlk e he hb) j hj).1
    rcases hor with ⟨⟨i0, hi0, hu1⟩, hI⟩ | ⟨k, hk, hlist, hr⟩
    · have hih : i < h := by
        refine Decidable.byContradiction fun hn => ?_
        have := (hbits i0 (tail_bits his (by rw [hT]; omega) i0 (by omega))).1
        rw [hu1] at this; simp at this
      obtain ⟨s2, g1, g2, _⟩ := HI.step hI (hall i (by omega)).1 hD hrun hih hso hu hbits (fun k hk hp hb => by
        have := hlb k (by have := hD.hle; have := hD.len; omega) hp i hb
        rw [hu] at this; simp at this) (fun k o hk hok hlk _ => (hall h (Nat.le_refl _)).2 k o hk hok hlk)
      refine opRun_ok hP hC hR hG hl hso g1 (fun γ' a' w' he hR' => ih _ γ' a' w' s2 hclo' hun' hR' (hG.mono he.F) (hE.trans he) ?_)
      rw [← hset] at g2
      by_cases hex : ∃ j, j < h ∧ (listed.setIfInBounds i true).getD j false = false
      · exact .inl ⟨hex, g2⟩
      · right
        have hallh : ∀ j, j < h → (listed.setIfInBounds i true).getD j false = true := fun j hj => by
          cases hx : (listed.setIfInBounds i true).getD j false with
          | true => rfl
          | false => exact absurd ⟨j, hj, hx⟩ hex
        have hsH : s2 = hs E cf l s0 h := g2.full (hall h (Nat.le_refl _)).1 hallh
        refine ⟨h, Nat.le_refl _, fun j hj => ⟨fun hlj => ?_, fun hjh => hallh j hjh⟩, by rw [hsH]; exact htail⟩
        refine Decidable.byContradiction fun hn => ?_
        have hji : i ≠ j := by omega
        rw [getD_set_ne false hji] at hlj
        have := hlb j hj hlj i (tail_bits hj (by rw [hT]; omega) i (by omega))
        rw [hu] at this; simp at this
    · have hik : i = k := by
        have h1 : ¬ i < k := fun hlt => by have := (hlist i his).2 hlt; rw [hu] at this; simp at this
        refine Decidable.byContradiction fun hn => ?_
        have hkl : k < i := by omega
        have := (hbits k (tail_bits his (by rw [hT]; omega) k hkl)).1
        have := (hlist k (by omega)).1 this
        omega
      subst hik
      rw [drop_cons hso] at hr
      simp only [runOps] at hr
      split at hr <;> try (simp at hr; done)
      rename_i s2 hs2
      refine opRun_ok hP hC hR hG hl hso hs2 (fun γ' a' w' he hR' => ih _ γ' a' w' s2 hclo' hun' hR' (hG.mono he.F) (hE.trans he) (.inr ⟨i + 1, by omega, fun j hj => ?_, hr⟩))
      have hb : (listed.setIfInBounds i true).getD j false = (listed.getD j false || decide (j = i)) := congrFun hset j
      rw [hb]
      have := hlist j hj
      by_cases hji : j = i
      · subst hji; simp
      · simp only [hji, decide_false, Bool.or_false]
        rw [this]; omega

theorem any_ok2 (hP : PureOK P E) (hC : CfOK P E cf) (hl : allSome (ops.toList.map (cOper P ops)) = some l) (hD : DrawOK ops l h) {d : Nat} {z : List SV} (hN : NewOK l h d z) (hT : tailFrom (allBefore ops.toList) = h + 1) (hz0 : s0.lz = none)
    (hrun : ∀ j o, j < h → l[j]? = some o → opRun E cf true l o (hs E cf l s0 j) = some (hs E cf l s0 (j + 1))) (htail : runOps E cf false l (l.drop h) (hs E cf l s0 h) = some sF)
    (hQ : ∀ γ' a' w', Ext γ0 w0 γ' w' → R P γ' a' w' sF → Q .normal a' w') :
    ∀ (fuel : Nat) (listed : Array Bool) (γ : Gh) (a : Act) (w : World) (s : St), Clo ops listed → unl listed = fuel → R P γ a w s → GlobOK E γ → Ext γ0 w0 γ w →
      ((∃ t, (∃ i, i < h + 1 ∧ listed.getD i false = false) ∧ HI E cf l h s0 (fun j => listed.getD j false) t ∧ s = if listed.getD h false = true then addN s0.bx.length d z t else t) ∨ ∃ k, h + 1 ≤ k ∧ (∀ i, i < ops.size → (listed.getD i false = true ↔ i < k)) ∧ runOps E cf false l (l.drop k) s = some sF) →
      wpAny P .any ops Q fuel listed a w := by
  have hall := hs_HI hD hz0 hrun
  have hlt : h < ops.size := by rw [← hD.len]; exact (List.getElem?_eq_some_iff.1 hN.op).1
  have htail' : runOps E cf false l (l.drop (h + 1)) (addN s0.bx.length d z (hs E cf l s0 h)) = some sF := by
    rw [drop_cons hN.op] at htail
    simp only [runOps, opRun_new (E := E) (cf := cf) (l := l) (d := d) (z := z) (show (hs E cf l s0 h).bx.length = s0.bx.length by rw [(hall h (Nat.le_refl _)).1.bx])] at htail
    exact htail
  have hend : ∀ (listed : Array Bool) (γ : Gh) (a : Act) (w : World) (s : St), Clo ops listed → R P γ a w s → Ext γ0 w0 γ w →
      ((∃ t, (∃ i, i < h + 1 ∧ listed.getD i false = false) ∧ HI E cf l h s0 (fun j => listed.getD j false) t ∧ s = if listed.getD h false = true then addN s0.bx.length d z t else t) ∨ ∃ k, h + 1 ≤ k ∧ (∀ i, i < ops.size → (listed.getD i false = true ↔ i < k)) ∧ runOps E cf false l (l.drop k) s = some sF) →
      Region.ready .any ops listed = [] → Q .normal a w := by
    intro listed γ a w s hclo hR hE hor hnil
    rcases hor with ⟨_, hex, _⟩ | ⟨k, hk, hlist, hr⟩
    · obtain ⟨i, h1, h2, h3⟩ := first_un (p := fun j => listed.getD j false) hex
      have := first_ready hD.back hclo (i := i) (by omega) h2 h3
      rw [hnil] at this; simp at this
    · have hks : ops.size ≤ k := by
        refine Decidable.byContradiction fun hn => ?_
        have hkl : k < ops.size := by omega
        have hu : listed.getD k false = false := by
          cases hx : listed.getD k false with
          | false => rfl
          | true => have := (hlist k hkl).1 hx; omega
        have := first_ready hD.back hclo hkl hu (fun j hj => (hlist j (by omega)).2 hj)
        rw [hnil] at this; simp at this
      rw [List.drop_eq_nil_of_le (by rw [hD.len]; exact hks)] at hr
      simp only [runOps, Option.some.injEq] at hr
      subst hr
      exact hQ γ a w hE hR
  intro fuel
  induction fuel with
  | zero =>
    intro listed γ a w s hclo hun hR hG hE hor
    have hz := unl_zero hun
    have hnil : Region.ready .any ops listed = [] := by
      cases hr : Region.ready .any ops listed with
      | nil => rfl
      | cons x xs =>
        have hx : x ∈ Region.ready .any ops listed := by rw [hr]; simp
        obtain ⟨h1, o, ho, _⟩ := mem_ready.1 hx
        have hxs := (Array.getElem?_eq_some_iff.1 ho).1
        have := hz x (by rw [hclo.size]; exact hxs)
        rw [getD_tf (by rw [hclo.size]; exact hxs), this] at h1
        simp at h1
    exact ⟨hnil, hend listed γ a w s hclo hR hE hor hnil⟩
  | succ fuel ih =>
    intro listed γ a w s hclo hun hR hG hE hor
    refine ⟨hend listed γ a w s hclo hR hE hor, fun i hi => ?_⟩
    obtain ⟨hu0, oi, hoi, hedges⟩ := mem_ready.1 hi
    have his := (Array.getElem?_eq_some_iff.1 hoi).1
    have hu : listed.getD i false = false := by rw [← getD_tf (by rw [hclo.size]; exact his)]; exact hu0
    have hbits := hclo.bits hD.back i oi hoi hedges
    have hun' : unl (listed.setIfInBounds i true) = fuel := by have := unl_set (by rw [hclo.size]; exact his) hu; omega
    have hclo' := hclo.set hi
    obtain ⟨so, hso, _⟩ := (all_get hl).2 i oi hoi
    have hset := set_p (listed := listed) (i := i) (by rw [hclo.size]; exact his)
    have hlb : ∀ k, k < ops.size → listed.getD k false = true → ∀ j, ((allBefore ops.toList).getD k 0).testBit j = true → listed.getD j false = true := fun k hk hlk j hj =>
      (hclo.bits hD.back k ops[k] (by simp [hk]) (fun e he hb => hclo.clo k _ (by simp [hk]) hlk e he hb) j hj).1
    have hdone : ∀ t2 s2, HI E cf l h s0 (fun j => (listed.setIfInBounds i true).getD j false) t2 → i < h + 1 → (s2 = if (listed.setIfInBounds i true).getD h false = true then addN s0.bx.length d z t2 else t2) →
        (∃ t, (∃ i', i' < h + 1 ∧ (listed.setIfInBounds i true).getD i' false = false) ∧ HI E cf l h s0 (fun j => (listed.setIfInBounds i true).getD j false) t ∧ s2 = if (listed.setIfInBounds i true).getD h false = true then addN s0.bx.length d z t else t) ∨ ∃ k, h + 1 ≤ k ∧ (∀ i', i' < ops.size → ((listed.setIfInBounds i true).getD i' false = true ↔ i' < k)) ∧ runOps E cf false l (l.drop k) s2 = some sF := by
      intro t2 s2 hI2 hih hs2
      by_cases hex : ∃ j, j < h + 1 ∧ (listed.setIfInBounds i true).getD j false = false
      · exact .inl ⟨t2, hex, hI2, hs2⟩
      · right
        have hallh : ∀ j, j < h + 1 → (listed.setIfInBounds i true).getD j false = true := fun j hj => by
          cases hx : (listed.setIfInBounds i true).getD j false with
          | true => rfl
          | false => exact absurd ⟨j, hj, hx⟩ hex
        have hsH : t2 = hs E cf l s0 h := hI2.full (hall h (Nat.le_refl _)).1 (fun j hj => hallh j (by omega))
        rw [hallh h (by omega), if_pos rfl, hsH] at hs2
        refine ⟨h + 1, Nat.le_refl _, fun j hj => ⟨fun hlj => ?_, fun hjh => hallh j hjh⟩, by rw [hs2]; exact htail'⟩
        refine Decidable.byContradiction fun hn => ?_
        have hji : i ≠ j := by omega
        rw [getD_set_ne false hji] at hlj
        have := hlb j hj hlj i (tail_bits hj (by rw [hT]; omega) i (by omega))
        rw [hu] at this; simp at this
    rcases hor with ⟨t, ⟨i0, hi0, hu1⟩, hI, hst⟩ | ⟨k, hk, hlist, hr⟩
    · have hih : i < h + 1 := by
        refine Decidable.byContradiction fun hn => ?_
        have := (hbits i0 (tail_bits his (by rw [hT]; omega) i0 (by omega))).1
        rw [hu1] at this; simp at this
      have hlzt : t.lz = none := hI.lzN (fun j oj hj hoj hlj => by rw [hN.lazy j oj hj hoj] at hlj; simp at hlj)
      by_cases hieq : i = h
      · subst hieq
        rw [hN.op] at hso
        obtain rfl := Option.some.inj hso
        rw [hu, if_neg (by simp)] at hst
        subst hst
        have hself : (listed.setIfInBounds i true).getD i false = true := by simp [Array.getD_eq_getD_getElem?, hclo.size, his]
        refine opRun_ok hP hC hR hG hl hN.op (opRun_new (n := s0.bx.length) (by rw [hI.bx])) (fun γ' a' w' he hR' => ih _ γ' a' w' _ hclo' hun' hR' (hG.mono he.F) (hE.trans he) (hdone s _ (hI.congr (fun j hj => ?_)) hih ?_))
        · rw [getD_set_ne false (by omega)]
        · rw [if_pos hself]
      · have hih' : i < h := by omega
        obtain ⟨s2, g1, g2, _⟩ := HI.step hI (hall i (by omega)).1 hD hrun hih' hso hu hbits (fun k hk hp hb => by
          have := hlb k (by omega) hp i hb
          rw [hu] at this; simp at this) (fun k o hk hok hlk _ => (hall h (Nat.le_refl _)).2 k o hk hok hlk)
        rw [← hset] at g2
        have hgh : (listed.setIfInBounds i true).getD h false = listed.getD h false := getD_set_ne false hieq
        by_cases hnd : listed.getD h false = true
        · rw [if_pos hnd] at hst
          subst hst
          refine opRun_ok hP hC hR hG hl hso (opRun_addN hD hN hih' hso hlzt g1) (fun γ' a' w' he hR' => ih _ γ' a' w' _ hclo' hun' hR' (hG.mono he.F) (hE.trans he) (hdone s2 _ g2 hih ?_))
          rw [hgh, if_pos hnd]
        · rw [if_neg hnd] at hst
          subst hst
          refine opRun_ok hP hC hR hG hl hso g1 (fun γ' a' w' he hR' => ih _ γ' a' w' _ hclo' hun' hR' (hG.mono he.F) (hE.trans he) (hdone s2 _ g2 hih ?_))
          rw [hgh, if_neg hnd]
    · have hik : i = k := by
        have h1 : ¬ i < k := fun hlt => by have := (hlist i his).2 hlt; rw [hu] at this; simp at this
        refine Decidable.byContradiction fun hn => ?_
        have hkl : k < i := by omega
        have := (hbits k (tail_bits his (by rw [hT]; omega) k hkl)).1
        have := (hlist k (by omega)).1 this
        omega
      subst hik
      rw [drop_cons hso] at hr
      simp only [runOps] at hr
      split at hr <;> try (simp at hr; done)
      rename_i s2 hs2
      refine opRun_ok hP hC hR hG hl hso hs2 (fun γ' a' w' he hR' => ih _ γ' a' w' s2 hclo' hun' hR' (hG.mono he.F) (hE.trans he) (.inr ⟨i + 1, by omega, fun j hj => ?_, hr⟩))
      have hb : (listed.setIfInBounds i true).getD j false = (listed.getD j false || decide (j = i)) := congrFun hset j
      rw [hb]
      have := hlist j hj
      by_cases hji : j = i
      · subst hji; simp
      · simp only [hji, decide_false, Bool.or_false]
        rw [this]; omega

theorem any_ok3 (hP : PureOK P E) (hC : CfOK P E cf) (hl : allSome (ops.toList.map (cOper P ops)) = some l) (hD : DrawOK ops l h) {σ : SOp} (hop : l[h]? = some σ) (hlazy : ∀ i o, i < h → l[i]? = some o → lazyOp o.op = false) (G : St → St)
    (hG1 : ∀ (p : Nat → Bool) (t : St), HI E cf l h s0 p t → (∀ j, j < h → ((allBefore ops.toList).getD h 0).testBit j = true → p j = true) → opRun E cf false l σ t = some (G t))
    (hG2 : ∀ (p : Nat → Bool) (i : Nat) (o : SOp) (t t2 : St), i < h → l[i]? = some o → ((allBefore ops.toList).getD h 0).testBit i = false → HI E cf l h s0 p t → (∀ j, ((allBefore ops.toList).getD i 0).testBit j = true → p j = true) → t.lz = none → opRun E cf true l o t = some t2 → opRun E cf true l o (G t) = some (G t2)) (hT : tailFrom (allBefore ops.toList) = h + 1) (hz0 : s0.lz = none)
    (hrun : ∀ j o, j < h → l[j]? = some o → opRun E cf true l o (hs E cf l s0 j) = some (hs E cf l s0 (j + 1))) (htail : runOps E cf false l (l.drop h) (hs E cf l s0 h) = some sF)
    (hQ : ∀ γ' a' w', Ext γ0 w0 γ' w' → R P γ' a' w' sF → Q .normal a' w') :
    ∀ (fuel : Nat) (listed : Array Bool) (γ : Gh) (a : Act) (w : World) (s : St), Clo ops listed → unl listed = fuel → R P γ a w s → GlobOK E γ → Ext γ0 w0 γ w →
      ((∃ t, (∃ i, i < h + 1 ∧ listed.getD i false = false) ∧ HI E cf l h s0 (fun j => listed.getD j false) t ∧ s = if listed.getD h false = true then G t else t) ∨ ∃ k, h + 1 ≤ k ∧ (∀ i, i < ops.size → (listed.getD i false = true ↔ i < k)) ∧ runOps E cf false l (l.drop k) s = some sF) →
      wpAny P .any ops Q fuel listed a w := by
  have hall := hs_HI hD hz0 hrun
  have hlt : h < ops.size := by rw [← hD.len]; exact (List.getElem?_eq_some_iff.1 hop).1
  have htail' : runOps E cf false l (l.drop (h + 1)) (G (hs E cf l s0 h)) = some sF := by
    rw [drop_cons hop] at htail
    simp only [runOps, hG1 _ _ (hall h (Nat.le_refl _)).1 (fun j hj _ => by simpa using hj)] at htail
    exact htail
  have hend : ∀ (listed : Array Bool) (γ : Gh) (a : Act) (w : World) (s : St), Clo ops listed → R P γ a w s → Ext γ0 w0 γ w →
      ((∃ t, (∃ i, i < h + 1 ∧ listed.getD i false = false) ∧ HI E cf l h s0 (fun j => listed.getD j false) t ∧ s = if listed.getD h false = true then G t else t) ∨ ∃ k, h + 1 ≤ k ∧ (∀ i, i < ops.size → (listed.getD i false = true ↔ i < k)) ∧ runOps E cf false l (l.drop k) s = some sF) →
      Region.ready .any ops listed = [] → Q .normal a w := by
    intro listed γ a w s hclo hR hE hor hnil
    rcases hor with ⟨_, hex, _⟩ | ⟨k, hk, hlist, hr⟩
    · obtain ⟨i, h1, h2, h3⟩ := first_un (p := fun j => listed.getD j false) hex
      have := first_ready hD.back hclo (i := i) (by omega) h2 h3
      rw [hnil] at this; simp at this
    · have hks : ops.size ≤ k := by
        refine Decidable.byContradiction fun hn => ?_
        have hkl : k < ops.size := by omega
        have hu : listed.getD k false = false := by
          cases hx : listed.getD k false with
          | false => rfl
          | true => have := (hlist k hkl).1 hx; omega
        have := first_ready hD.back hclo hkl hu (fun j hj => (hlist j (by omega)).2 hj)
        rw [hnil] at this; simp at this
      rw [List.drop_eq_nil_of_le (by rw [hD.len]; exact hks)] at hr
      simp only [runOps, Option.some.injEq] at hr
      subst hr
      exact hQ γ a w hE hR
  intro fuel
  induction fuel with
  | zero =>
    intro listed γ a w s hclo hun hR hG hE hor
    have hz := unl_zero hun
    have hnil : Region.ready .any ops listed = [] := by
      cases hr : Region.ready .any ops listed with
      | nil => rfl
      | cons x xs =>
        have hx : x ∈ Region.ready .any ops listed := by rw [hr]; simp
        obtain ⟨h1, o, ho, _⟩ := mem_ready.1 hx
        have hxs := (Array.getElem?_eq_some_iff.1 ho).1
        have := hz x (by rw [hclo.size]; exact hxs)
        rw [getD_tf (by rw [hclo.size]; exact hxs), this] at h1
        simp at h1
    exact ⟨hnil, hend listed γ a w s hclo hR hE hor hnil⟩
  | succ fuel ih =>
    intro listed γ a w s hclo hun hR hG hE hor
    refine ⟨hend listed γ a w s hclo hR hE hor, fun i hi => ?_⟩
    obtain ⟨hu0, oi, hoi, hedges⟩ := mem_ready.1 hi
    have his := (Array.getElem?_eq_some_iff.1 hoi).1
    have hu : listed.getD i false = false := by rw [← getD_tf (by rw [hclo.size]; exact his)]; exact hu0
    have hbits := hclo.bits hD.back i oi hoi hedges
    have hun' : unl (listed.setIfInBounds i true) = fuel := by have := unl_set (by rw [hclo.size]; exact his) hu; omega
    have hclo' := hclo.set hi
    obtain ⟨so, hso, _⟩ := (all_get hl).2 i oi hoi
    have hset := set_p (listed := listed) (i := i) (by rw [hclo.size]; exact his)
    have hlb : ∀ k, k < ops.size → listed.getD k false = true → ∀ j, ((allBefore ops.toList).getD k 0).testBit j = true → listed.getD j false = true := fun k hk hlk j hj =>
      (hclo.bits hD.back k ops[k] (by simp [hk]) (fun e he hb => hclo.clo k _ (by simp [hk]) hlk e he hb) j hj).1
    have hdone : ∀ t2 s2, HI E cf l h s0 (fun j => (listed.setIfInBounds i true).getD j false) t2 → i < h + 1 → (s2 = if (listed.setIfInBounds i true).getD h false = true then G t2 else t2) →
        (∃ t, (∃ i', i' < h + 1 ∧ (listed.setIfInBounds i true).getD i' false = false) ∧ HI E cf l h s0 (fun j => (listed.setIfInBounds i true).getD j false) t ∧ s2 = if (listed.setIfInBounds i true).getD h false = true then G t else t) ∨ ∃ k, h + 1 ≤ k ∧ (∀ i', i' < ops.size → ((listed.setIfInBounds i true).getD i' false = true ↔ i' < k)) ∧ runOps E cf false l (l.drop k) s2 = some sF := by
      intro t2 s2 hI2 hih hs2
      by_cases hex : ∃ j, j < h + 1 ∧ (listed.setIfInBounds i true).getD j false = false
      · exact .inl ⟨t2, hex, hI2, hs2⟩
      · right
        have hallh : ∀ j, j < h + 1 → (listed.setIfInBounds i true).getD j false = true := fun j hj => by
          cases hx : (listed.setIfInBounds i true).getD j false with
          | true => rfl
          | false => exact absurd ⟨j, hj, hx⟩ hex
        have hsH : t2 = hs E cf l s0 h := hI2.full (hall h (Nat.le_refl _)).1 (fun j hj => hallh j (by omega))
        rw [hallh h (by omega), if_pos rfl, hsH] at hs2
        refine ⟨h + 1, Nat.le_refl _, fun j hj => ⟨fun hlj => ?_, fun hjh => hallh j hjh⟩, by rw [hs2]; exact htail'⟩
        refine Decidable.byContradiction fun hn => ?_
        have hji : i ≠ j := by omega
        rw [getD_set_ne false hji] at hlj
        have := hlb j hj hlj i (tail_bits hj (by rw [hT]; omega) i (by omega))
        rw [hu] at this; simp at this
    rcases hor with ⟨t, ⟨i0, hi0, hu1⟩, hI, hst⟩ | ⟨k, hk, hlist, hr⟩
    · have hih : i < h + 1 := by
        refine Decidable.byContradiction fun hn => ?_
        have := (hbits i0 (tail_bits his (by rw [hT]; omega) i0 (by omega))).1
        rw [hu1] at this; simp at this
      have hlzt : t.lz = none := hI.lzN (fun j oj hj hoj hlj => by rw [hlazy j oj hj hoj] at hlj; simp at hlj)
      by_cases hieq : i = h
      · subst hieq
        rw [hu, if_neg (by simp)] at hst
        subst hst
        have hself : (listed.setIfInBounds i true).getD i false = true := by simp [Array.getD_eq_getD_getElem?, hclo.size, his]
        refine opRun_ok hP hC hR hG hl hop (hG1 _ s hI (fun j hj hb => (hbits j hb).1)) (fun γ' a' w' he hR' => ih _ γ' a' w' _ hclo' hun' hR' (hG.mono he.F) (hE.trans he) (hdone s _ (hI.congr (fun j hj => ?_)) hih ?_))
        · rw [getD_set_ne false (by omega)]
        · rw [if_pos hself]
      · have hih' : i < h := by omega
        obtain ⟨s2, g1, g2, _⟩ := HI.step hI (hall i (by omega)).1 hD hrun hih' hso hu hbits (fun k hk hp hb => by
          have := hlb k (by omega) hp i hb
          rw [hu] at this; simp at this) (fun k o hk hok hlk _ => (hall h (Nat.le_refl _)).2 k o hk hok hlk)
        rw [← hset] at g2
        have hgh : (listed.setIfInBounds i true).getD h false = listed.getD h false := getD_set_ne false hieq
        by_cases hnd : listed.getD h false = true
        · rw [if_pos hnd] at hst
          subst hst
          refine opRun_ok hP hC hR hG hl hso (hG2 _ i so t s2 hih' hso (by
            cases hb : ((allBefore ops.toList).getD h 0).testBit i with
            | false => rfl
            | true =>
              have := hlb h hlt hnd i hb
              rw [hu] at this; simp at this) hI (fun j hj => (hbits j hj).1) hlzt g1) (fun γ' a' w' he hR' => ih _ γ' a' w' _ hclo' hun' hR' (hG.mono he.F) (hE.trans he) (hdone s2 _ g2 hih ?_))
          rw [hgh, if_pos hnd]
        · rw [if_neg hnd] at hst
          subst hst
          refine opRun_ok hP hC hR hG hl hso g1 (fun γ' a' w' he hR' => ih _ γ' a' w' _ hclo' hun' hR' (hG.mono he.F) (hE.trans he) (hdone s2 _ g2 hih ?_))
          rw [hgh, if_neg hnd]
    · have hik : i = k := by
        have h1 : ¬ i < k := fun hlt => by have := (hlist i his).2 hlt; rw [hu] at this; simp at this
        refine Decidable.byContradiction fun hn => ?_
        have hkl : k < i := by omega
        have := (hbits k (tail_bits his (by rw [hT]; omega) k hkl)).1
        have := (hlist k (by omega)).1 this
        omega
      subst hik
      rw [drop_cons hso] at hr
      simp only [runOps] at hr
      split at hr <;> try (simp at hr; done)
      rename_i s2 hs2
      refine opRun_ok hP hC hR hG hl hso hs2 (fun γ' a' w' he hR' => ih _ γ' a' w' s2 hclo' hun' hR' (hG.mono he.F) (hE.trans he) (.inr ⟨i + 1, by omega, fun j hj => ?_, hr⟩))
      have hb : (listed.setIfInBounds i true).getD j false = (listed.getD j false || decide (j = i)) := congrFun hset j
      rw [hb]
      have := hlist j hj
      by_cases hji : j = i
      · subst hji; simp
      · simp only [hji, decide_false, Bool.or_false]
        rw [this]; omega

theorem any_ok4 (hP : PureOK P E) (hC : CfOK P E cf) (hl : allSome (ops.toList.map (cOper P ops)) = some l) (hD : DrawOK ops l h) {σ σ' : SOp} (hop : l[h]? = some σ) (hop2 : l[h + 1]? = some σ') (hb12 : ((allBefore ops.toList).getD (h + 1) 0).testBit h = true) (hlazy : ∀ i o, i < h → l[i]? = some o → lazyOp o.op = false) (A B : St → St)
    (hA1 : ∀ (p : Nat → Bool) (t : St), HI E cf l h s0 p t → (∀ j, j < h → ((allBefore ops.toList).getD h 0).testBit j = true → p j = true) → opRun E cf false l σ t = some (A t))
    (hB1 : ∀ (p : Nat → Bool) (t : St), HI E cf l h s0 p t → (∀ j, j < h → ((allBefore ops.toList).getD (h + 1) 0).testBit j = true → p j = true) → opRun E cf false l σ' (A t) = some (B t))
    (hA2 : ∀ (i : Nat) (o : SOp) (t t2 : St), i < h → l[i]? = some o → t.lz = none → opRun E cf true l o t = some t2 → opRun E cf true l o (A t) = some (A t2))
    (hB2 : ∀ (i : Nat) (o : SOp) (t t2 : St), i < h → l[i]? = some o → ((allBefore ops.toList).getD (h + 1) 0).testBit i = false → t.lz = none → opRun E cf true l o t = some t2 → opRun E cf true l o (B t) = some (B t2)) (hT : tailFrom (allBefore ops.toList) = h + 2) (hz0 : s0.lz = none)
    (hrun : ∀ j o, j < h → l[j]? = some o → opRun E cf true l o (hs E cf l s0 j) = some (hs E cf l s0 (j + 1))) (htail : runOps E cf false l (l.drop h) (hs E cf l s0 h) = some sF)
    (hQ : ∀ γ' a' w', Ext γ0 w0 γ' w' → R P γ' a' w' sF → Q .normal a' w') :
    ∀ (fuel : Nat) (listed : Array Bool) (γ : Gh) (a : Act) (w : World) (s : St), Clo ops listed → unl listed = fuel → R P γ a w s → GlobOK E γ → Ext γ0 w0 γ w →
      ((∃ t, (∃ i, i < h + 2 ∧ listed.getD i false = false) ∧ HI E cf l h s0 (fun j => listed.getD j false) t ∧ s = ef (listed.getD h false) (listed.getD (h + 1) false) A B t) ∨ ∃ k, h + 2 ≤ k ∧ (∀ i, i < ops.size → (listed.getD i false = true ↔ i < k)) ∧ runOps E cf false l (l.drop k) s = some sF) →
      wpAny P .any ops Q fuel listed a w := by
  have hall := hs_HI hD hz0 hrun
  have hlt : h < ops.size := by rw [← hD.len]; exact (List.getElem?_eq_some_iff.1 hop).1
  have hlt2 : h + 1 < ops.size := by rw [← hD.len]; exact (List.getElem?_eq_some_iff.1 hop2).1
  have htail' : runOps E cf false l (l.drop (h + 2)) (B (hs E cf l s0 h)) = some sF := by
    rw [drop_cons hop, drop_cons hop2] at htail
    simp only [runOps, hA1 _ _ (hall h (Nat.le_refl _)).1 (fun j hj _ => by simpa using hj), hB1 _ _ (hall h (Nat.le_refl _)).1 (fun j hj _ => by simpa using hj)] at htail
    exact htail
  have hend : ∀ (listed : Array Bool) (γ : Gh) (a : Act) (w : World) (s : St), Clo ops listed → R P γ a w s → Ext γ0 w0 γ w →
      ((∃ t, (∃ i, i < h + 2 ∧ listed.getD i false = false) ∧ HI E cf l h s0 (fun j => listed.getD j false) t ∧ s = ef (listed.getD h false) (listed.getD (h + 1) false) A B t) ∨ ∃ k, h + 2 ≤ k ∧ (∀ i, i < ops.size → (listed.getD i false = true ↔ i < k)) ∧ runOps E cf false l (l.drop k) s = some sF) →
      Region.ready .any ops listed = [] → Q .normal a w := by
    intro listed γ a w s hclo hR hE hor hnil
    rcases hor with ⟨_, hex, _⟩ | ⟨k, hk, hlist, hr⟩
    · obtain ⟨i, h1, h2, h3⟩ := first_un (p := fun j => listed.getD j false) hex
      have := first_ready hD.back hclo (i := i) (by omega) h2 h3
      rw [hnil] at this; simp at this
    · have hks : ops.size ≤ k := by
        refine Decidable.byContradiction fun hn => ?_
        have hkl : k < ops.size := by omega
        have hu : listed.getD k false = false := by
          cases hx : listed.getD k false with
          | false => rfl
          | true => have := (hlist k hkl).1 hx; omega
        have := first_ready hD.back hclo hkl hu (fun j hj => (hlist j (by omega)).2 hj)
        rw [hnil] at this; simp at this
      rw [List.drop_eq_nil_of_le (by rw [hD.len]; exact hks)] at hr
      simp only [runOps, Option.some.injEq] at hr
      subst hr
      exact hQ γ a w hE hR
  intro fuel
  induction fuel with
  | zero =>
    intro listed γ a w s hclo hun hR hG hE hor
    have hz := unl_zero hun
    have hnil : Region.ready .any ops listed = [] := by
      cases hr : Region.ready .any ops listed with
      | nil => rfl
      | cons x xs =>
        have hx : x ∈ Region.ready .any ops listed := by rw [hr]; simp
        obtain ⟨h1, o, ho, _⟩ := mem_ready.1 hx
        have hxs := (Array.getElem?_eq_some_iff.1 ho).1
        have := hz x (by rw [hclo.size]; exact hxs)
        rw [getD_tf (by rw [hclo.size]; exact hxs), this] at h1
        simp at h1
    exact ⟨hnil, hend listed γ a w s hclo hR hE hor hnil⟩
  | succ fuel ih =>
    intro listed γ a w s hclo hun hR hG hE hor
    refine ⟨hend listed γ a w s hclo hR hE hor, fun i hi => ?_⟩
    obtain ⟨hu0, oi, hoi, hedges⟩ := mem_ready.1 hi
    have his := (Array.getElem?_eq_some_iff.1 hoi).1
    have hu : listed.getD i false = false := by rw [← getD_tf (by rw [hclo.size]; exact his)]; exact hu0
    have hbits := hclo.bits hD.back i oi hoi hedges
    have hun' : unl (listed.setIfInBounds i true) = fuel := by have := unl_set (by rw [hclo.size]; exact his) hu; omega
    have hclo' := hclo.set hi
    obtain ⟨so, hso, _⟩ := (all_get hl).2 i oi hoi
    have hset := set_p (listed := listed) (i := i) (by rw [hclo.size]; exact his)
    have hlb : ∀ k, k < ops.size → listed.getD k false = true → ∀ j, ((allBefore ops.toList).getD k 0).testBit j = true → listed.getD j false = true := fun k hk hlk j hj =>
      (hclo.bits hD.back k ops[k] (by simp [hk]) (fun e he hb => hclo.clo k _ (by simp [hk]) hlk e he hb) j hj).1
    have hdone : ∀ t2 s2, HI E cf l h s0 (fun j => (listed.setIfInBounds i true).getD j false) t2 → i < h + 2 → (s2 = ef ((listed.setIfInBounds i true).getD h false) ((listed.setIfInBounds i true).getD (h + 1) false) A B t2) →
        (∃ t, (∃ i', i' < h + 2 ∧ (listed.setIfInBounds i true).getD i' false = false) ∧ HI E cf l h s0 (fun j => (listed.setIfInBounds i true).getD j false) t ∧ s2 = ef ((listed.setIfInBounds i true).getD h false) ((listed.setIfInBounds i true).getD (h + 1) false) A B t) ∨ ∃ k, h + 2 ≤ k ∧ (∀ i', i' < ops.size → ((listed.setIfInBounds i true).getD i' false = true ↔ i' < k)) ∧ runOps E cf false l (l.drop k) s2 = some sF := by
      intro t2 s2 hI2 hih hs2
      by_cases hex : ∃ j, j < h + 2 ∧ (listed.setIfInBounds i true).getD j false = false
      · exact .inl ⟨t2, hex, hI2, hs2⟩
      · right
        have hallh : ∀ j, j < h + 2 → (listed.setIfInBounds i true).getD j false = true := fun j hj => by
          cases hx : (listed.setIfInBounds i true).getD j false with
          | true => rfl
          | false => exact absurd ⟨j, hj, hx⟩ hex
        have hsH : t2 = hs E cf l s0 h := hI2.full (hall h (Nat.le_refl _)).1 (fun j hj => hallh j (by omega))
        rw [hallh h (by omega), hallh (h + 1) (by omega), hsH] at hs2
        simp only [ef, if_true] at hs2
        refine ⟨h + 2, Nat.le_refl _, fun j hj => ⟨fun hlj => ?_, fun hjh => hallh j hjh⟩, by rw [hs2]; exact htail'⟩
        refine Decidable.byContradiction fun hn => ?_
        have hji : i ≠ j := by omega
        rw [getD_set_ne false hji] at hlj
        have := hlb j hj hlj i (tail_bits hj (by rw [hT]; omega) i (by omega))
        rw [hu] at this; simp at this
    rcases hor with ⟨t, ⟨i0, hi0, hu1⟩, hI, hst⟩ | ⟨k, hk, hlist, hr⟩
    · have hih : i < h + 2 := by
        refine Decidable.byContradiction fun hn => ?_
        have := (hbits i0 (tail_bits his (by rw [hT]; omega) i0 (by omega))).1
        rw [hu1] at this; simp at this
      have hlzt : t.lz = none := hI.lzN (fun j oj hj hoj hlj => by rw [hlazy j oj hj hoj] at hlj; simp at hlj)
      by_cases hieq : i = h
      · subst hieq
        have hu2 : listed.getD (i + 1) false = false := by
          cases hx : listed.getD (i + 1) false with
          | false => rfl
          | true =>
            have := hlb (i + 1) hlt2 hx i hb12
            rw [hu] at this; simp at this
        rw [hu, hu2] at hst
        simp only [ef, Bool.false_eq_true, if_false] at hst
        subst hst
        have hself : (listed.setIfInBounds i true).getD i false = true := by simp [Array.getD_eq_getD_getElem?, hclo.size, his]
        have hself2 : (listed.setIfInBounds i true).getD (i + 1) false = false := by rw [getD_set_ne false (by omega)]; exact hu2
        refine opRun_ok hP hC hR hG hl hop (hA1 _ s hI (fun j hj hb => (hbits j hb).1)) (fun γ' a' w' he hR' => ih _ γ' a' w' _ hclo' hun' hR' (hG.mono he.F) (hE.trans he) (hdone s _ (hI.congr (fun j hj => ?_)) hih ?_))
        · rw [getD_set_ne false (by omega)]
        · rw [hself, hself2]; simp [ef]
      · by_cases hieq2 : i = h + 1
        · subst hieq2
          have hu1 : listed.getD h false = true := (hbits h hb12).1
          rw [hu, hu1] at hst
          simp only [ef, Bool.false_eq_true, if_false, if_true] at hst
          subst hst
          have hself : (listed.setIfInBounds (h + 1) true).getD (h + 1) false = true := by simp [Array.getD_eq_getD_getElem?, hclo.size, his]
          refine opRun_ok hP hC hR hG hl hop2 (hB1 _ t hI (fun j hj hb => (hbits j hb).1)) (fun γ' a' w' he hR' => ih _ γ' a' w' _ hclo' hun' hR' (hG.mono he.F) (hE.trans he) (hdone t _ (hI.congr (fun j hj => ?_)) hih ?_))
          · rw [getD_set_ne false (by omega)]
          · rw [hself]; simp [ef]
        · have hih' : i < h := by omega
          obtain ⟨s2, g1, g2, _⟩ := HI.step hI (hall i (by omega)).1 hD hrun hih' hso hu hbits (fun k hk hp hb => by
            have := hlb k (by omega) hp i hb
            rw [hu] at this; simp at this) (fun k o hk hok hlk _ => (hall h (Nat.le_refl _)).2 k o hk hok hlk)
          rw [← hset] at g2
          have hgh : (listed.setIfInBounds i true).getD h false = listed.getD h false := getD_set_ne false hieq
          have hgh2 : (listed.setIfInBounds i true).getD (h + 1) false = listed.getD (h + 1) false := getD_set_ne false hieq2
          cases hn2 : listed.getD (h + 1) false with
          | true =>
            rw [hn2] at hst
            simp only [ef, if_true] at hst
            subst hst
            refine opRun_ok hP hC hR hG hl hso (hB2 i so t s2 hih' hso (by
              cases hb : ((allBefore ops.toList).getD (h + 1) 0).testBit i with
              | false => rfl
              | true =>
                have := hlb (h + 1) hlt2 hn2 i hb
                rw [hu] at this; simp at this) hlzt g1) (fun γ' a' w' he hR' => ih _ γ' a' w' _ hclo' hun' hR' (hG.mono he.F) (hE.trans he) (hdone s2 _ g2 hih ?_))
            rw [hgh2, hn2]; simp [ef]
          | false =>
            cases hn1 : listed.getD h false with
            | true =>
              rw [hn2, hn1] at hst
              simp only [ef, if_true, Bool.false_eq_true, if_false] at hst
              subst hst
              refine opRun_ok hP hC hR hG hl hso (hA2 i so t s2 hih' hso hlzt g1) (fun γ' a' w' he hR' => ih _ γ' a' w' _ hclo' hun' hR' (hG.mono he.F) (hE.trans he) (hdone s2 _ g2 hih ?_))
              rw [hgh, hgh2, hn2, hn1]; simp [ef]
            | false =>
              rw [hn2, hn1] at hst
              simp only [ef, Bool.false_eq_true, if_false] at hst
              subst hst
              refine opRun_ok hP hC hR hG hl hso g1 (fun γ' a' w' he hR' => ih _ γ' a' w' _ hclo' hun' hR' (hG.mono he.F) (hE.trans he) (hdone s2 _ g2 hih ?_))
              rw [hgh, hgh2, hn2, hn1]; simp [ef]
    · have hik : i = k := by
        have h1 : ¬ i < k := fun hlt => by have := (hlist i his).2 hlt; rw [hu] at this; simp at this
        refine Decidable.byContradiction fun hn => ?_
        have hkl : k < i := by omega
        have := (hbits k (tail_bits his (by rw [hT]; omega) k hkl)).1
        have := (hlist k (by omega)).1 this
        omega
      subst hik
      rw [drop_cons hso] at hr
      simp only [runOps] at hr
      split at hr <;> try (simp at hr; done)
      rename_i s2 hs2
      refine opRun_ok hP hC hR hG hl hso hs2 (fun γ' a' w' he hR' => ih _ γ' a' w' s2 hclo' hun' hR' (hG.mono he.F) (hE.trans he) (.inr ⟨i + 1, by omega, fun j hj => ?_, hr⟩))
      have hb : (listed.setIfInBounds i true).getD j false = (listed.getD j false || decide (j = i)) := congrFun hset j
      rw [hb]
      have := hlist j hj
      by_cases hji : j = i
      · subst hji; simp
      · simp only [hji, decide_false, Bool.or_false]
        rw [this]; omega

theorem region_draw (hm : P.follows .mixedOrders = true) (hP : PureOK P E) (hC : CfOK P E cf) (hR : R P γ a w s) (hG : GlobOK E γ) (hz : s.lz = none) {id : Nat} (hl : allSome (ops.toList.map (cOper P ops)) = some l) (hd : drawHead ops l = some h) {sH : St}
    (h1 : runOps E cf true l (l.take h) s = some sH) (h2 : runOps E cf false l (l.drop h) sH = some sF) (hQ : ∀ γ' a' w', Ext γ w γ' w' → R P γ' a' w' sF → Q .normal a' w') : (Code.region id ops true).wp P Q a w := by
  obtain ⟨hD, hkind⟩ := drawOK_of hd
  obtain ⟨k1, k2⟩ := hs_run (E := E) (cf := cf) (l := l) (s0 := s) hD.hle h 0 (by omega) (by show runOps E cf true l ((l.drop 0).take h) s = _; rw [List.drop_zero]; exact h1)
  have hrun : ∀ j o, j < h → l[j]? = some o → opRun E cf true l o (hs E cf l s j) = some (hs E cf l s (j + 1)) := fun j o hj ho => k1 j o (by omega) hj ho
  refine wp_region_any hm ?_
  have hR' : R P γ a { w with drawn := w.drawn + 1 } s := by
    have hf : Fresh γ w γ { w with drawn := w.drawn + 1 } := ⟨rfl, rfl, rfl, Nat.le_refl _, fun _ _ => rfl, fun _ _ _ h => h, fun _ _ _ _ h => h, hR.bx.Fw, rfl, rfl, fun _ _ => rfl, fun b ℓ hl ho => by have := (hR.bx.ow b ℓ ho).1; omega⟩
    exact hf.R hR
  have hE : Ext γ w γ { w with drawn := w.drawn + 1 } := ⟨rfl, rfl, rfl, Nat.le_refl _, fun _ _ _ h => h, ⟨[], by simp, by simp⟩, fun _ _ => rfl, fun _ _ _ _ h => h, fun _ h => h.2.2, fun _ _ h => h⟩
  have hgf : ∀ j, (Array.replicate ops.size false).getD j false = false := fun j => by
    simp only [Array.getD_eq_getD_getElem?, Array.getElem?_replicate]
    split <;> rfl
  have hclo0 : Clo ops (Array.replicate ops.size false) := ⟨by simp, fun i o _ hli => by rw [hgf] at hli; simp at hli⟩
  have hun0 : unl (Array.replicate ops.size false) = ops.size := by
    unfold unl
    rw [Array.toList_replicate, List.countP_replicate]
    rfl
  have hHI0 : HI E cf l h s (fun j => (Array.replicate ops.size false).getD j false) s := by
    have := (hs_HI hD hz hrun 0 (by omega)).1
    have hp : (fun j => (Array.replicate ops.size false).getD j false) = fun j => decide (j < 0) := by funext j; rw [hgf j]; simp
    rw [hp]; exact this
  rcases hkind with hT | ⟨hT, ⟨d, z, hN⟩ | ⟨n, p, u, hN⟩⟩ | ⟨hT, d, z, n, u, hN⟩
  · refine any_ok hP hC hl hD hT hz hrun (by rw [k2]; exact h2) hQ ops.size _ γ a _ s hclo0 hun0 hR' hG hE ?_
    by_cases hh : 0 < h
    · exact .inl ⟨⟨0, hh, hgf 0⟩, hHI0⟩
    · right
      have h0 : h = 0 := by omega
      subst h0
      refine ⟨0, Nat.le_refl _, fun i hi => ⟨fun hx => by rw [hgf] at hx; simp at hx, fun hx => by omega⟩, ?_⟩
      rw [← k2] at h2
      exact h2
  · refine any_ok2 hP hC hl hD hN hT hz hrun (by rw [k2]; exact h2) hQ ops.size _ γ a _ s hclo0 hun0 hR' hG hE (.inl ⟨s, ⟨0, by omega, hgf 0⟩, hHI0, ?_⟩)
    rw [hgf, if_neg (by simp)]
  · have hall := hs_HI hD hz hrun
    have hH := (hall h (Nat.le_refl _)).1
    have hdr := drop_cons hN.op
    obtain ⟨j0, o0, y0, k0, hj0, ho0, hd0, he0⟩ := hN.ext
    obtain ⟨x, hx⟩ := ext_sv he0 hd0 (hrun j0 o0 hj0 ho0)
    have hxH : (hs E cf l s h).rd u = .sv x := by
      rw [hH.rdV j0 o0 u hj0 ho0 hd0 (by simpa using hj0) (fun k ok hk hok hkk => by rw [hN.kill k ok hk hok] at hkk; simp at hkk), hx]
    have hlzH : (hs E cf l s h).lz = none := hH.lzN (fun j oj hj hoj hlj => by rw [hN.lazy j oj hj hoj] at hlj; simp at hlj)
    have h2' := h2
    rw [hdr, ← k2] at h2'
    simp only [runOps] at h2'
    split at h2' <;> try (simp at h2'; done)
    rename_i s2 hs2
    have hst : doStore (hs E cf l s h) n (p.ev E (hs E cf l s h)) (.sv x) (.t u) = some s2 := by
      simp only [opRun, wants, stepOp, pre, stepV, lazyAfter, show ∀ q : St, Opd.ev E q (.t u) = q.rd u from fun _ => rfl, hxH] at hs2
      split at hs2 <;> try (simp at hs2; done)
      rename_i v s' hs'
      split at hs' <;> simp only [Option.some.injEq, Prod.mk.injEq, reduceCtorEq] at hs'
      rename_i s3 hs3
      obtain ⟨_, rfl⟩ := hs'
      simp only [Option.some.injEq] at hs2
      have e3 := (doStore_sv hs3).1
      rw [hs3]
      rw [← hs2]
      rw [e3]
      rfl
    have hB := (doStore_sv hst).2
    refine any_ok3 hP hC hl hD hN.op hN.lazy (fun t => { t with bx := s2.bx }) ?_ ?_ hT hz hrun (by rw [k2]; exact h2) hQ ops.size _ γ a _ s hclo0 hun0 hR' hG hE (.inl ⟨s, ⟨0, by omega, hgf 0⟩, hHI0, ?_⟩)
    · intro pp t hI hb
      have hlzt : t.lz = none := hI.lzN (fun j oj hj hoj hlj => by rw [hN.lazy j oj hj hoj] at hlj; simp at hlj)
      have hrd : ∀ v, v ∈ p.reads ++ [u] → t.rd v = (hs E cf l s h).rd v := by
        intro v hv
        by_cases hex : ∃ j oj, j < h ∧ l[j]? = some oj ∧ oj.dst = some v
        · obtain ⟨j, oj, hj, hoj, hdj⟩ := hex
          rw [hI.rdV j oj v hj hoj hdj (hb j hj (hN.looks v hv j oj hj hoj hdj)) (fun k ok hk hok hkk => by rw [hN.kill k ok hk hok] at hkk; simp at hkk), hH.rdV j oj v hj hoj hdj (by simpa using hj) (fun k ok hk hok hkk => by rw [hN.kill k ok hk hok] at hkk; simp at hkk)]
        · have hno : ∀ j oj, j < h → l[j]? = some oj → oj.dst = some v ∨ oj.op.kills = some v → False := fun j oj h1 h2 h3 => by
            rcases h3 with h3 | h3
            · exact hex ⟨j, oj, h1, h2, h3⟩
            · rw [hN.kill j oj h1 h2] at h3; simp at h3
          rw [hI.rdN v (fun j oj h1 h2 h3 => (hno j oj h1 h2 h3).elim), hH.rdN v (fun j oj h1 h2 h3 => (hno j oj h1 h2 h3).elim)]
      have hp : p.ev E t = p.ev E (hs E cf l s h) := by
        cases p with
        | t v => exact hrd v (by simp [Opd.reads])
        | c v => rfl
        | g v => rfl
      have hu : t.rd u = .sv x := by rw [hrd u (by simp), hxH]
      have := hB t (by rw [hI.bx, hH.bx])
      simp only [opRun, wants, stepOp, pre, stepV, lazyAfter, show ∀ q : St, Opd.ev E q (.t u) = q.rd u from fun _ => rfl, hu, hp, this]
      cases t
      simp only at hlzt
      subst hlzt
      rfl
    · intro _ i o t t2 hi ho hb _ _ _ ho2
      rcases hN.free i o hi ho with hf | hf
      · rw [hb] at hf; simp at hf
      · exact opRun_setB hD hi ho hf (hN.lazy i o hi ho) (hN.kill i o hi ho) ho2
    · rw [hgf, if_neg (by simp)]

  · have hall := hs_HI hD hz hrun
    have hH := (hall h (Nat.le_refl _)).1
    obtain ⟨j0, o0, c0, ps0, hj0, ho0, hd0, he0⟩ := hN.bld
    obtain ⟨x, hx⟩ := build_sv he0 hd0 (hrun j0 o0 hj0 ho0)
    have hxH : (hs E cf l s h).rd u = .sv x := by
      rw [hH.rdV j0 o0 u hj0 ho0 hd0 (by simpa using hj0) (fun k ok hk hok hkk => by rw [hN.kill k ok hk hok] at hkk; simp at hkk), hx]
    have hlzH : (hs E cf l s h).lz = none := hH.lzN (fun j oj hj hoj hlj => by rw [hN.new.lazy j oj hj hoj] at hlj; simp at hlj)
    have hur : ∀ t : St, (addN s.bx.length d z t).rd u = t.rd u := fun t => by
      show ({ t with tm := t.tm.set d (.ptr s.bx.length 0) } : St).rd u = _
      rw [rd_setL, if_neg (fun e => hN.ne e.1)]
    have hdr : ∀ t : St, t.tm.length = s.tm.length → (addN s.bx.length d z t).rd d = (addN s.bx.length d z (hs E cf l s h)).rd d := fun t ht => by
      show ({ t with tm := t.tm.set d (.ptr s.bx.length 0) } : St).rd d = ({ (hs E cf l s h) with tm := (hs E cf l s h).tm.set d (.ptr s.bx.length 0) } : St).rd d
      rw [rd_setL, rd_setL, ht, hH.len]
      by_cases hdl : d < s.tm.length
      · simp [hdl]
      · simp only [hdl, and_false, if_false]
        rw [rd_big (by rw [ht]; omega), rd_big (by rw [hH.len]; omega)]
    have hzA : ∀ t : St, t.lz = none → (addN s.bx.length d z t).lz = none := fun t ht => by simp only [addN, St.put, St.set, ht, clearTmp]
    have h2' := h2
    rw [drop_cons hN.new.op, drop_cons hN.op2, ← k2] at h2'
    simp only [runOps, opRun_new (E := E) (cf := cf) (l := l) (d := d) (z := z) (show (hs E cf l s h).bx.length = s.bx.length by rw [hH.bx])] at h2'
    split at h2' <;> try (simp at h2'; done)
    rename_i s2 hs2
    have hst : doStore (addN s.bx.length d z (hs E cf l s h)) n ((addN s.bx.length d z (hs E cf l s h)).rd d) (.sv x) (.t u) = some s2 := by
      simp only [opRun, wants, stepOp, pre, stepV, lazyAfter, show ∀ (q : St) (v : Nat), Opd.ev E q (.t v) = q.rd v from fun _ _ => rfl, hur, hxH] at hs2
      split at hs2 <;> try (simp at hs2; done)
      rename_i v s' hs'
      split at hs' <;> simp only [Option.some.injEq, Prod.mk.injEq, reduceCtorEq] at hs'
      rename_i s3 hs3
      obtain ⟨_, rfl⟩ := hs'
      simp only [Option.some.injEq] at hs2
      have e3 := (doStore_sv hs3).1
      rw [hs3]
      rw [← hs2]
      rw [e3]
      rfl
    have hB := (doStore_sv hst).2
    refine any_ok4 hP hC hl hD hN.new.op hN.op2 hN.b12 hN.new.lazy (fun t => addN s.bx.length d z t) (fun t => { addN s.bx.length d z t with bx := s2.bx }) ?_ ?_ ?_ ?_ hT hz hrun (by rw [k2]; exact h2) hQ ops.size _ γ a _ s hclo0 hun0 hR' hG hE (.inl ⟨s, ⟨0, by omega, hgf 0⟩, hHI0, ?_⟩)
    · intro pp t hI _
      exact opRun_new (by rw [hI.bx])
    · intro pp t hI hb
      have hlzt : t.lz = none := hI.lzN (fun j oj hj hoj hlj => by rw [hN.new.lazy j oj hj hoj] at hlj; simp at hlj)
      have hu : (addN s.bx.length d z t).rd u = .sv x := by
        rw [hur, hI.rdV j0 o0 u hj0 ho0 hd0 (hb j0 hj0 (hN.looks j0 o0 hj0 ho0 hd0)) (fun k ok hk hok hkk => by rw [hN.kill k ok hk hok] at hkk; simp at hkk), hx]
      have := hB (addN s.bx.length d z t) (by show t.bx ++ _ = (hs E cf l s h).bx ++ _; rw [hI.bx, hH.bx])
      have hzt := hzA t hlzt
      simp only [opRun, wants, stepOp, pre, stepV, lazyAfter, show ∀ (q : St) (v : Nat), Opd.ev E q (.t v) = q.rd v from fun _ _ => rfl, hu, hdr t hI.len, this]
      generalize addN s.bx.length d z t = t' at *
      cases t'
      simp only at hzt
      subst hzt
      rfl
    · intro i o t t2 hi ho hlz ho2
      exact opRun_addN hD hN.new hi ho hlz ho2
    · intro i o t t2 hi ho hb hlz ho2
      have e1 := opRun_addN (n := s.bx.length) hD hN.new hi ho hlz ho2
      rcases hN.free i o hi ho with hf | hf
      · rw [hb] at hf; simp at hf
      · exact opRun_setB hD hi ho hf (hN.new.lazy i o hi ho) (hN.kill i o hi ho) e1
    · rw [hgf, hgf]; simp [ef]

theorem doStore_off {s s2 : St} {n : Option Nat} {j off : Nat} {x : SV} {o : Opd} (h : doStore s n (.ptr j off) (.sv x) o = some s2) : ∀ i, i ≠ j → s2.bx[i]? = s.bx[i]? := by
  intro i hi
  have key : ∀ (cs : List Cell) , (s.bx.set j (.live cs))[i]? = s.bx[i]? := fun cs => List.getElem?_set_ne (fun e => hi e.symm)
  simp only [doStore] at h
  split at h <;> try (simp at h; done)
  split at h
  · split at h <;> try (simp at h; done)
    cases x <;> simp only [Option.some.injEq, reduceCtorEq] at h <;> subst h <;> exact key _
  · cases x <;> try (simp at h; done)
    simp only at h
    split at h <;> simp only [Option.some.injEq, reduceCtorEq] at h
    subst h
    exact key _

theorem opRun_loadB {l : List SOp} {o : SOp} {x : Opd} {B : List Box} {t t2 : St} (ho : o.op = .load none x) (hL : linkAt { t with bx := B } none (x.ev E t) = linkAt t none (x.ev E t)) (hC : cellsAt { t with bx := B } (x.ev E t) = cellsAt t (x.ev E t)) (h : opRun E cf true l o t = some t2) :
    opRun E cf true l o { t with bx := B } = some { t2 with bx := B } := by
  have hx : x.ev E ({ t with bx := B } : St) = x.ev E t := by cases x <;> rfl
  unfold opRun at h ⊢
  have hw : wants l ({ t with bx := B } : St) o = wants l t o := wants_local (fun _ _ => rfl)
  rw [hw]
  split at h
  · simp only [stepOp, pre_true, ho, stepV, tidyAt_q, hx, hL, hC, lazyAfter] at h ⊢
    split at h <;> try (simp at h; done)
    rename_i v s' hst
    split at hst
    · rename_i v' hv'
      simp only [Option.some.injEq, Prod.mk.injEq] at hst
      obtain ⟨rfl, rfl⟩ := hst
      simp only [Option.some.injEq] at h
      subst h
      simp only [hv']
      cases o.dst <;> rfl
    · rename_i hv'
      split at hst <;> try (simp at hst; done)
      rename_i cs hcs
      split at hst <;> simp only [Option.some.injEq, Prod.mk.injEq, reduceCtorEq] at hst
      rename_i y hy
      obtain ⟨rfl, rfl⟩ := hst
      simp only [Option.some.injEq] at h
      subst h
      simp only [hv', hcs, hy]
      cases o.dst <;> rfl
  · simp only [Option.some.injEq] at h
    subst h
    cases o.dst <;> rfl
  · simp at h

theorem wants_dst {l l' : List SOp} (hlen : l'.length = l.length) (hd : ∀ j : Nat, (l'[j]?).map SOp.dst = (l[j]?).map SOp.dst) (s : St) (o : SOp) : wants l' s o = wants l s o := by
  unfold wants
  split
  · rfl
  · rename_i j b _
    have := hd j
    cases h1 : l[j]? with
    | none => rw [h1] at this; cases h2 : l'[j]? with
      | none => rfl
      | some y => rw [h2] at this; simp at this
    | some x => rw [h1] at this; cases h2 : l'[j]? with
      | none => rw [h2] at this; simp at this
      | some y =>
        rw [h2] at this
        simp only [Option.map_some, Option.some.injEq] at this
        simp only [this]

theorem runOps_all {l l' : List SOp} {q : Bool} (hw : ∀ s o, wants l' s o = wants l s o) : ∀ (ops : List SOp) (s : St), runOps E cf q l' ops s = runOps E cf q l ops s
  | [], _ => rfl
  | o :: ops, s => by
    have e : opRun E cf q l' o s = opRun E cf q l o s := by unfold opRun; rw [hw]
    simp only [runOps, e]
    split
    · exact runOps_all hw ops _
    · rfl

theorem region_drawX (hm : P.follows .mixedOrders = true) (hP : PureOK P E) (hC : CfOK P E cf) (hR : R P γ a w s) (hG : GlobOK E γ) (hz : s.lz = none) {id : Nat} (hl : allSome (ops.toList.map (cOper P ops)) = some l) {l' : List SOp} (hd : drawHeadX ops l = some (h, l')) {sH : St}
    (h1 : runOps E cf true l' (l'.take h) s = some sH) (h2 : runOps E cf false l' (l'.drop h) sH = some sF) (hQ : ∀ γ' a' w', Ext γ w γ' w' → R P γ' a' w' sF → Q .normal a' w') : (Code.region id ops true).wp P Q a w := by
  obtain ⟨hD, hT, n, p, u, ls, hN, rfl⟩ := drawX_of hd
  have hhl : h < l.length := (List.getElem?_eq_some_iff.1 hN.op).1
  have hw : ∀ s o, wants (l.set h { dst := none, op := .storeX n p (.t u) ls, guard := none }) s o = wants l s o := fun s o => wants_dst (by simp) (fun j => by
    rw [List.getElem?_set]
    split
    · rename_i e
      subst e
      try rw [if_pos hhl]
      rw [hN.op]
      rfl
    · rfl) s o
  rw [runOps_all hw, List.take_set_of_le (Nat.le_refl _)] at h1
  rw [runOps_all hw, List.drop_set, if_neg (by omega), Nat.sub_self, drop_cons hN.op, List.set_cons_zero] at h2
  obtain ⟨k1, k2⟩ := hs_run (E := E) (cf := cf) (l := l) (s0 := s) hD.hle h 0 (by omega) (by show runOps E cf true l ((l.drop 0).take h) s = _; rw [List.drop_zero]; exact h1)
  have hrun : ∀ j o, j < h → l[j]? = some o → opRun E cf true l o (hs E cf l s j) = some (hs E cf l s (j + 1)) := fun j o hj ho => k1 j o (by omega) hj ho
  have hall := hs_HI hD hz hrun
  have hH := (hall h (Nat.le_refl _)).1
  rw [← k2] at h2
  simp only [runOps] at h2
  split at h2 <;> try (simp at h2; done)
  rename_i s2 hs2
  -- what was checked
  have hchk : ∃ x j off, (hs E cf l s h).rd u = .sv x ∧ p.ev E (hs E cf l s h) = .ptr j off ∧ (∀ y ∈ ls, offBox j (y.ev E (hs E cf l s h)) = true) ∧ doStore (hs E cf l s h) n (.ptr j off) (.sv x) (.t u) = some s2 := by
    simp only [opRun, wants, stepOp, pre, stepV, lazyAfter, show ∀ q : St, Opd.ev E q (.t u) = q.rd u from fun _ => rfl] at hs2
    split at hs2 <;> try (simp at hs2; done)
    rename_i v s' hs'
    cases hx : ((hs E cf l s h).rd u).sv? with
    | none => rw [hx] at hs'; simp at hs'
    | some x =>
    cases hj : boxOf (p.ev E (hs E cf l s h)) with
    | none => rw [hx, hj] at hs'; simp at hs'
    | some j =>
    rw [hx, hj] at hs'
    simp only at hs'
    by_cases hls : (ls.all fun y => offBox j (Opd.ev E (hs E cf l s h) y)) = true
    rotate_left
    · simp only [hls] at hs'; simp at hs'
    simp only [hls, if_true] at hs'
    split at hs' <;> simp only [Option.some.injEq, Prod.mk.injEq, reduceCtorEq] at hs'
    rename_i s3 hs3
    obtain ⟨_, rfl⟩ := hs'
    simp only [Option.some.injEq] at hs2
    have e3 := (doStore_sv hs3).1
    have hx' : (hs E cf l s h).rd u = .sv x := by
      revert hx
      cases (hs E cf l s h).rd u <;> simp [AV.sv?]
    have hj' : ∃ off, p.ev E (hs E cf l s h) = .ptr j off := by
      revert hj
      cases p.ev E (hs E cf l s h) <;> simp [boxOf]
    obtain ⟨off, hj'⟩ := hj'
    refine ⟨x, j, off, hx', hj', List.all_eq_true.1 hls, ?_⟩
    rw [hj'] at hs3
    rw [hs3, ← hs2, e3]
    rfl
  obtain ⟨x, jb, off, hxH, hpH, hlsH, hst⟩ := hchk
  have hB := (doStore_sv hst).2
  have hoff := doStore_off hst
  have hrdH : ∀ (pp : Nat → Bool) (t : St) (v : Nat), HI E cf l h s pp t → (∀ j oj, j < h → l[j]? = some oj → oj.dst = some v → pp j = true) → t.rd v = (hs E cf l s h).rd v := by
    intro pp t v hI hv
    by_cases hex : ∃ j oj, j < h ∧ l[j]? = some oj ∧ oj.dst = some v
    · obtain ⟨j, oj, hj, hoj, hdj⟩ := hex
      rw [hI.rdV j oj v hj hoj hdj (hv j oj hj hoj hdj) (fun k ok hk hok hkk => by rw [hN.kill k ok hk hok] at hkk; simp at hkk), hH.rdV j oj v hj hoj hdj (by simpa using hj) (fun k ok hk hok hkk => by rw [hN.kill k ok hk hok] at hkk; simp at hkk)]
    · have hno : ∀ j oj, j < h → l[j]? = some oj → oj.dst = some v ∨ oj.op.kills = some v → False := fun j oj h1 h2 h3 => by
        rcases h3 with h3 | h3
        · exact hex ⟨j, oj, h1, h2, h3⟩
        · rw [hN.kill j oj h1 h2] at h3; simp at h3
      rw [hI.rdN v (fun j oj h1 h2 h3 => (hno j oj h1 h2 h3).elim), hH.rdN v (fun j oj h1 h2 h3 => (hno j oj h1 h2 h3).elim)]
  have htail : runOps E cf false l (l.drop h) (hs E cf l s h) = some sF := by
    rw [drop_cons hN.op]
    simp only [runOps]
    have : opRun E cf false l { dst := none, op := .store n p (.t u), guard := none } (hs E cf l s h) = some s2 := by
      have hlzH : (hs E cf l s h).lz = none := hH.lzN (fun j oj hj hoj hlj => by rw [hN.lazy j oj hj hoj] at hlj; simp at hlj)
      simp only [opRun, wants, stepOp, pre, stepV, lazyAfter, show ∀ q : St, Opd.ev E q (.t u) = q.rd u from fun _ => rfl, hxH, hpH, hst]
      rfl
    rw [this]
    exact h2
  refine wp_region_any hm ?_
  have hR' : R P γ a { w with drawn := w.drawn + 1 } s := by
    have hf : Fresh γ w γ { w with drawn := w.drawn + 1 } := ⟨rfl, rfl, rfl, Nat.le_refl _, fun _ _ => rfl, fun _ _ _ h => h, fun _ _ _ _ h => h, hR.bx.Fw, rfl, rfl, fun _ _ => rfl, fun b ℓ hl ho => by have := (hR.bx.ow b ℓ ho).1; omega⟩
    exact hf.R hR
  have hE : Ext γ w γ { w with drawn := w.drawn + 1 } := ⟨rfl, rfl, rfl, Nat.le_refl _, fun _ _ _ h => h, ⟨[], by simp, by simp⟩, fun _ _ => rfl, fun _ _ _ _ h => h, fun _ h => h.2.2, fun _ _ h => h⟩
  have hgf : ∀ j, (Array.replicate ops.size false).getD j false = false := fun j => by
    simp only [Array.getD_eq_getD_getElem?, Array.getElem?_replicate]
    split <;> rfl
  have hclo0 : Clo ops (Array.replicate ops.size false) := ⟨by simp, fun i o _ hli => by rw [hgf] at hli; simp at hli⟩
  have hun0 : unl (Array.replicate ops.size false) = ops.size := by
    unfold unl
    rw [Array.toList_replicate, List.countP_replicate]
    rfl
  have hHI0 : HI E cf l h s (fun j => (Array.replicate ops.size false).getD j false) s := by
    have := (hs_HI hD hz hrun 0 (by omega)).1
    have hp : (fun j => (Array.replicate ops.size false).getD j false) = fun j => decide (j < 0) := by funext j; rw [hgf j]; simp
    rw [hp]; exact this
  refine any_ok3 hP hC hl hD hN.op hN.lazy (fun t => { t with bx := s2.bx }) ?_ ?_ hT hz hrun htail hQ ops.size _ γ a _ s hclo0 hun0 hR' hG hE (.inl ⟨s, ⟨0, by omega, hgf 0⟩, hHI0, ?_⟩)
  · intro pp t hI hb
    have hlzt : t.lz = none := hI.lzN (fun j oj hj hoj hlj => by rw [hN.lazy j oj hj hoj] at hlj; simp at hlj)
    have hrd : ∀ v, v ∈ p.reads ++ [u] → t.rd v = (hs E cf l s h).rd v := fun v hv => hrdH pp t v hI (fun j oj hj hoj hdj => hb j hj (hN.looks v hv j oj hj hoj hdj))
    have hp : p.ev E t = .ptr jb off := by
      rw [← hpH]
      cases p with
      | t v => exact hrd v (by simp [Opd.reads])
      | c v => rfl
      | g v => rfl
    have hu : t.rd u = .sv x := by rw [hrd u (by simp), hxH]
    have := hB t (by rw [hI.bx, hH.bx])
    simp only [opRun, wants, stepOp, pre, stepV, lazyAfter, show ∀ q : St, Opd.ev E q (.t u) = q.rd u from fun _ => rfl, hu, hp, this]
    cases t
    simp only at hlzt
    subst hlzt
    rfl
  · intro pp i o t t2 hi ho hb hI hbi _ ho2
    rcases hN.free i o hi ho with hf | hf | ⟨y, hy, hyl⟩
    · rw [hb] at hf; simp at hf
    · exact opRun_setB hD hi ho hf (hN.lazy i o hi ho) (hN.kill i o hi ho) ho2
    · have hye : y.ev E t = y.ev E (hs E cf l s h) := by
        cases y with
        | t v => exact hrdH pp t v hI (fun j oj hj hoj hdj => hbi j (hD.looks i j o oj v hi hj ho hoj (by simp [SOp.looks, hy, AOp.reads, Opd.reads]) hdj))
        | c v => rfl
        | g v => rfl
      have hoy := hlsH y hyl
      rw [← hye] at hoy
      have hbx : t.bx = (hs E cf l s h).bx := by rw [hI.bx, hH.bx]
      have hsame : ∀ i', i' ≠ jb → s2.bx[i']? = t.bx[i']? := fun i' hi' => by rw [hoff i' hi', hbx]
      have hyv : (∃ i' o', y.ev E t = .ptr i' o' ∧ i' ≠ jb) ∨ ∃ cs, y.ev E t = .sv (.ref cs) := by
        unfold offBox at hoy
        split at hoy
        · rename_i i' o' hyt
          exact .inl ⟨i', o', hyt, by simpa using hoy⟩
        · rename_i cs hyt
          exact .inr ⟨cs, hyt⟩
        · simp at hoy
      refine opRun_loadB hy ?_ ?_ ho2
      · rcases hyv with ⟨i', o', hyt, hne⟩ | ⟨cs, hyt⟩
        · rw [hyt]
          simp only [linkAt, hsame i' hne]
        · rw [hyt]
          rfl
      · rcases hyv with ⟨i', o', hyt, hne⟩ | ⟨cs, hyt⟩
        · rw [hyt]
          simp only [cellsAt, hsame i' hne]
        · rw [hyt]
          rfl
  · rw [hgf, if_neg (by simp)]

end
end Go.Ev

set_option linter.unusedSimpArgs false
set_option linter.unusedVariables false
namespace Go.Ev
variable {P : Program} {E : Env} {cf : CallF}

def AExit.to : AExit → Exit
  | .normal => .normal
  | .exit id => .exit id
  | .ret => .ret

/-- What is shown of a code. -/
def CodeOK (P : Program) (E : Env) (cf : CallF) (c : Code) (ev : St → Option (AExit × St)) : Prop :=
  ∀ (γ : Gh) (a : Act) (w : World) (s : St) (e : AExit) (s' : St) (Q : Exit → Act → World → Prop), ev s = some (e, s') → R P γ a w s → GlobOK E γ →
    (∀ γ' a' w', Ext γ w γ' w' → R P γ' a' w' s' → Q e.to a' w') → c.wp P Q a w

theorem rounds_ok {c : Code} {ev : St → Option (AExit × St)} (h : CodeOK P E cf c ev) : ∀ (m : Nat) (γ : Gh) (a : Act) (w : World) (s : St) (e : AExit) (s' : St) (Q : Exit → Act → World → Prop), rounds ev m s = some (e, s') → R P γ a w s → GlobOK E γ →
    (∀ γ' a' w', Ext γ w γ' w' → R P γ' a' w' s' → Q e.to a' w') → Code.rounds P c Q m a w
  | 0, _, _, _, _, _, _, _, hr, _, _, _ => by simp [rounds] at hr
  | m + 1, γ, a, w, s, e, s', Q, hr, hR, hG, hQ => by
    rw [rounds_succ]
    simp only [rounds] at hr
    cases hev : ev s with
    | none => rw [hev] at hr; simp at hr
    | some p =>
      obtain ⟨e1, s1⟩ := p
      rw [hev] at hr
      refine h γ a w s e1 s1 _ hev hR hG (fun γ' a' w' he hR' => ?_)
      cases e1 with
      | normal => exact rounds_ok h m γ' a' w' s1 e s' Q hr hR' (hG.mono he.F) (fun γ2 a2 w2 he2 hR2 => hQ γ2 a2 w2 (he.trans he2) hR2)
      | exit id =>
        simp only [Option.some.injEq, Prod.mk.injEq] at hr
        obtain ⟨rfl, rfl⟩ := hr
        exact hQ γ' a' w' he hR'
      | ret =>
        simp only [Option.some.injEq, Prod.mk.injEq] at hr
        obtain ⟨rfl, rfl⟩ := hr
        exact hQ γ' a' w' he hR'

theorem R.killed {γ : Gh} {a : Act} {w : World} {s : St} (hR : R P γ a w s) (ts : List Nat) : R P γ a w (s.kill ts) := by
  have key : ∀ (ts : List Nat) (l : List AV), l.length = s.tm.length → (∀ t, t < s.tm.length → RepA P γ w (.tmp t) (l.getD t (.sv .undef)) (a.tmps.getD t undef)) →
      (ts.foldl (fun l t => l.set t (.sv .undef)) l).length = s.tm.length ∧ ∀ t, t < s.tm.length → RepA P γ w (.tmp t) ((ts.foldl (fun l t => l.set t (.sv .undef)) l).getD t (.sv .undef)) (a.tmps.getD t undef) := by
    intro ts
    induction ts with
    | nil => intro l h1 h2; exact ⟨h1, h2⟩
    | cons x ts ih =>
      intro l h1 h2
      refine ih (l.set x (.sv .undef)) (by simpa using h1) (fun t ht => ?_)
      simp only [List.getD_eq_getElem?_getD, List.getElem?_set]
      by_cases e : x = t
      · subst e
        rw [if_pos rfl, if_pos (by omega)]
        exact .sv _ _ _ (.undef _)
      · rw [if_neg e]
        have := h2 t ht
        simpa [List.getD_eq_getElem?_getD] using this
  obtain ⟨h1, h2⟩ := key ts s.tm rfl hR.tm
  exact ⟨hR.bx, hR.sz.trans h1.symm, fun t ht => h2 t (by rw [← h1]; exact ht), by simp [St.kill], hR.dl, hR.df⟩

theorem CodeOK.kill {c : Code} {ev : St → Option (AExit × St)} (h : CodeOK P E cf c ev) (ts : List Nat) : CodeOK P E cf c (fun s => ev (s.kill ts)) :=
  fun γ a w s e s' Q hev hR hG hQ => h γ a w (s.kill ts) e s' Q hev (hR.killed ts) hG hQ

theorem CodeOK.withKill {c : Code} {ac : ACode} {n : Nat} (h : CodeOK P E cf c (evC E cf n ac)) (N m : Nat) : CodeOK P E cf c (evC E cf n (withKill N m ac)) := by
  unfold Ev.withKill
  split
  · exact h
  · have := h.kill (bitsOf N m)
    have he : (fun s => evC E cf n ac (s.kill (bitsOf N m))) = evC E cf n (.seq (.kill (bitsOf N m)) ac) := by funext s; rfl
    rw [← he]; exact this

theorem CodeOK.killAfter {c : Code} {ac : ACode} {n : Nat} (h : CodeOK P E cf c (evC E cf n ac)) (ts : List Nat) : CodeOK P E cf c (evC E cf n (.seq ac (.kill ts))) := by
  intro γ a w s e s' Q hev hR hG hQ
  simp only [evC] at hev
  cases h1 : evC E cf n ac s with
  | none => rw [h1] at hev; simp at hev
  | some p =>
    obtain ⟨e1, s1⟩ := p
    rw [h1] at hev
    cases e1 with
    | normal =>
      simp only [Option.some.injEq, Prod.mk.injEq] at hev
      obtain ⟨rfl, rfl⟩ := hev
      exact h γ a w s _ s1 Q h1 hR hG (fun γ' a' w' he hR' => hQ γ' a' w' he (hR'.killed ts))
    | exit id =>
      simp only [Option.some.injEq, Prod.mk.injEq] at hev
      obtain ⟨rfl, rfl⟩ := hev
      exact h γ a w s _ s1 Q h1 hR hG hQ
    | ret =>
      simp only [Option.some.injEq, Prod.mk.injEq] at hev
      obtain ⟨rfl, rfl⟩ := hev
      exact h γ a w s _ s1 Q h1 hR hG hQ

theorem code_ok (hm : P.follows .mixedOrders = true) (hP : PureOK P E) (hC : CfOK P E cf) (n : Nat) : ∀ (c : Code) (ac : ACode), cCode P c = some ac → ∀ (N rt out : Nat) (ex : List (Nat × Nat)), CodeOK P E cf c (evC E cf n (ann N rt ac out ex).1) := by
  intro c
  induction c with
  | skip =>
    intro ac hc N rt out ex γ a w s e s' Q hev hR hG hQ
    simp only [cCode, Option.some.injEq] at hc; subst hc
    simp only [ann, evC, Option.some.injEq, Prod.mk.injEq] at hev
    obtain ⟨rfl, rfl⟩ := hev
    exact wp_skip (hQ γ a w (Ext.refl _ _) hR)
  | label l =>
    intro ac hc N rt out ex γ a w s e s' Q hev hR hG hQ
    simp only [cCode, Option.some.injEq] at hc; subst hc
    simp only [ann, evC, Option.some.injEq, Prod.mk.injEq] at hev
    obtain ⟨rfl, rfl⟩ := hev
    exact wp_label (hQ γ a w (Ext.refl _ _) hR)
  | exit id =>
    intro ac hc N rt out ex γ a w s e s' Q hev hR hG hQ
    simp only [cCode, Option.some.injEq] at hc; subst hc
    simp only [ann, evC, Option.some.injEq, Prod.mk.injEq] at hev
    obtain ⟨rfl, rfl⟩ := hev
    exact wp_exit (hQ γ a w (Ext.refl _ _) hR)
  | ret =>
    intro ac hc N rt out ex γ a w s e s' Q hev hR hG hQ
    simp only [cCode, Option.some.injEq] at hc; subst hc
    simp only [ann, evC, Option.some.injEq, Prod.mk.injEq] at hev
    obtain ⟨rfl, rfl⟩ := hev
    exact wp_ret (hQ γ a w (Ext.refl _ _) hR)
  | region id ops draw =>
    intro ac hc N rt out ex
    simp only [cCode] at hc
    split at hc <;> try (simp at hc; done)
    rename_i l hl
    have hreg : ∀ h l, ac = .region h l → CodeOK P E cf (.region id ops draw) (evC E cf n (.region h l)) → CodeOK P E cf (.region id ops draw) (evC E cf n (ann N rt ac out ex).1) := by
      intro h l hac hok
      subst hac
      simp only [ann]
      split
      · exact hok
      · exact hok.killAfter _
    split at hc
    · rename_i hdr
      split at hc
      · rename_i h hh
        simp only [Option.some.injEq] at hc; subst hc
        refine hreg h l rfl (fun γ a w s e s' Q hev hR hG hQ => ?_)
        obtain ⟨γ3, hR3, he3⟩ := tidyHeadIf_ok (l.take h) hR
        simp only [evC] at hev
        generalize (if s.lk = true then tidyHead (l.take h) s else s) = s4 at hev hR3
        have hR0 := hR3.noLz
        split at hev <;> try (simp at hev; done)
        rename_i sH h1
        split at hev <;> simp only [Option.some.injEq, Prod.mk.injEq, reduceCtorEq] at hev
        rename_i sF h2
        obtain ⟨rfl, rfl⟩ := hev
        rw [hdr]
        exact region_draw hm hP hC hR0 (hG.mono he3.F) rfl hl hh h1 h2 (fun γ' a' w' he hR' => hQ γ' a' w' (he3.trans he) hR')
      · split at hc
        · rename_i px hh
          obtain ⟨hx, lx⟩ := px
          simp only [Option.some.injEq] at hc; subst hc
          refine hreg hx lx rfl (fun γ a w s e s' Q hev hR hG hQ => ?_)
          obtain ⟨γ3, hR3, he3⟩ := tidyHeadIf_ok (lx.take hx) hR
          simp only [evC] at hev
          generalize (if s.lk = true then tidyHead (lx.take hx) s else s) = s4 at hev hR3
          have hR0 := hR3.noLz
          split at hev <;> try (simp at hev; done)
          rename_i sH h1
          split at hev <;> simp only [Option.some.injEq, Prod.mk.injEq, reduceCtorEq] at hev
          rename_i sF h2
          obtain ⟨rfl, rfl⟩ := hev
          rw [hdr]
          exact region_drawX hm hP hC hR0 (hG.mono he3.F) rfl hl hh h1 h2 (fun γ' a' w' he hR' => hQ γ' a' w' (he3.trans he) hR')
        · simp only [Option.some.injEq] at hc; subst hc
          intro γ a w s e s' Q hev; simp [ann, evC] at hev
    · rename_i hdr
      simp only [Option.some.injEq] at hc; subst hc
      refine hreg 0 l rfl (fun γ a w s e s' Q hev hR hG hQ => ?_)
      have hti : (if s.lk = true then tidyHead [] s else s) = s := by split <;> rfl
      have hR0 := hR.noLz
      simp only [evC, List.take_zero, runOps, List.drop_zero, hti] at hev
      split at hev <;> simp only [Option.some.injEq, Prod.mk.injEq, reduceCtorEq] at hev
      rename_i sF h2
      obtain ⟨rfl, rfl⟩ := hev
      have hd : draw = false := by simpa using hdr
      rw [hd]
      exact region_seq hP hC hR0 hG hl h2 hQ
  | seq x y ihx ihy =>
    intro ac hc N rt out ex
    simp only [cCode] at hc
    split at hc <;> simp only [Option.some.injEq, reduceCtorEq] at hc
    rename_i ax ay hx hy
    subst hc
    intro γ a w s e s' Q hev hR hG hQ
    simp only [ann, evC] at hev
    have ihy' := ihy ay hy N rt out ex
    have ihx' := ihx ax hx N rt (ann N rt ay out ex).2 ex
    refine wp_seq ?_
    cases h1 : evC E cf n (ann N rt ax (ann N rt ay out ex).2 ex).1 s with
    | none => rw [h1] at hev; simp at hev
    | some p =>
      obtain ⟨e1, s1⟩ := p
      rw [h1] at hev
      refine ihx' γ a w s e1 s1 _ h1 hR hG (fun γ' a' w' he hR' => ?_)
      cases e1 with
      | normal => exact ihy' γ' a' w' s1 e s' Q hev hR' (hG.mono he.F) (fun γ2 a2 w2 he2 hR2 => hQ γ2 a2 w2 (he.trans he2) hR2)
      | exit id =>
        simp only [Option.some.injEq, Prod.mk.injEq] at hev
        obtain ⟨rfl, rfl⟩ := hev
        exact hQ γ' a' w' he hR'
      | ret =>
        simp only [Option.some.injEq, Prod.mk.injEq] at hev
        obtain ⟨rfl, rfl⟩ := hev
        exact hQ γ' a' w' he hR'
  | cond c x y ihx ihy =>
    intro ac hc N rt out ex
    simp only [cCode] at hc
    split at hc <;> simp only [Option.some.injEq, reduceCtorEq] at hc
    rename_i ac' ax ay hcc hx hy
    subst hc
    intro γ a w s e s' Q hev hR hG hQ
    simp only [ann, evC] at hev
    split at hev <;> try (simp at hev; done)
    rename_i b hb
    have hv := (ev_rep hR hG hcc).bool hb
    refine wp_cond hv ?_
    cases b with
    | true => simp only [if_true] at hev ⊢; exact (ihx ax hx N rt out ex).withKill _ _ γ a w s e s' Q hev hR hG hQ
    | false => simp only [Bool.false_eq_true, if_false] at hev ⊢; exact (ihy ay hy N rt out ex).withKill _ _ γ a w s e s' Q hev hR hG hQ
  | block id b ih =>
    intro ac hc N rt out ex
    simp only [cCode, Option.map_eq_some_iff] at hc
    obtain ⟨ab, hb, rfl⟩ := hc
    intro γ a w s e s' Q hev hR hG hQ
    simp only [ann, evC] at hev
    have ih' := ih ab hb N rt out ((id, out) :: ex)
    refine wp_block ?_
    cases h1 : evC E cf n (ann N rt ab out ((id, out) :: ex)).1 s with
    | none => rw [h1] at hev; simp at hev
    | some p =>
      obtain ⟨e1, s1⟩ := p
      rw [h1] at hev
      refine ih' γ a w s e1 s1 _ h1 hR hG (fun γ' a' w' he hR' => ?_)
      cases e1 with
      | normal =>
        simp only [Option.some.injEq, Prod.mk.injEq] at hev
        obtain ⟨rfl, rfl⟩ := hev
        exact hQ γ' a' w' he hR'
      | exit j =>
        simp only at hev
        show Exit.inBlock id Q (.exit j) a' w'
        unfold Exit.inBlock
        split at hev
        · rename_i hj
          simp only [Option.some.injEq, Prod.mk.injEq] at hev
          obtain ⟨rfl, rfl⟩ := hev
          simp only [hj, if_true]
          exact hQ γ' a' w' he hR'
        · rename_i hj
          simp only [Option.some.injEq, Prod.mk.injEq] at hev
          obtain ⟨rfl, rfl⟩ := hev
          simp only [hj, if_false]
          exact hQ γ' a' w' he hR'
      | ret =>
        simp only [Option.some.injEq, Prod.mk.injEq] at hev
        obtain ⟨rfl, rfl⟩ := hev
        exact hQ γ' a' w' he hR'
  | loop b ih =>
    intro ac hc N rt out ex
    simp only [cCode, Option.map_eq_some_iff] at hc
    obtain ⟨ab, hb, rfl⟩ := hc
    intro γ a w s e s' Q hev hR hG hQ
    simp only [ann, evC] at hev
    exact wp_loop_rounds n (rounds_ok (ih ab hb N rt _ ex) n γ a w s e s' Q hev hR hG hQ)
  | scope b ih =>
    intro ac hc N rt out ex
    simp only [cCode, Option.map_eq_some_iff] at hc
    obtain ⟨ab, hb, rfl⟩ := hc
    intro γ a w s e s' Q hev hR hG hQ
    simp only [ann, evC] at hev
    refine wp_scope_straight (ih ab hb N rt out ex γ a w s e s' _ hev hR hG (fun γ' a' w' he hR' => ?_))
    cases e <;> exact hQ γ' a' w' he hR'
  | _ =>
    intro ac hc N rt out ex γ a w s e s' Q hev
    simp only [cCode, Option.some.injEq] at hc
    subst hc
    simp [ann, evC] at hev

end Go.Ev
