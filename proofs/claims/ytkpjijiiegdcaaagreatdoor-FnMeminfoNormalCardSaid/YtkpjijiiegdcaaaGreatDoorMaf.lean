/- Regions that draw their order: every order comes to the text's order. -/
/- Regions that draw their order, whatever is drawn. -/
import Derived.Test.YtkpjijiiegdcaaaGreatDoorMae
set_option linter.unusedSimpArgs false
set_option linter.unusedVariables false
namespace Go.Ev
variable {P : Program} {E : Env} {γ : Gh} {a : Act} {w : World} {s : St} {cf : CallF} {q : Bool} {s1 : St} {av : AV}

structure DrawOK (ops : Array Oper) (l : List SOp) (h : Nat) : Prop where
  len : l.length = ops.size
  hle : h ≤ l.length
  back : edgesBack ops.toList = true
  head : ∀ i o, i < h → l[i]? = some o → headOp o.op = true
  one : ∀ i j oi oj, i < h → j < h → l[i]? = some oi → l[j]? = some oj → lazyOp oi.op = true → lazyOp oj.op = true → i = j
  dst : ∀ i j oi oj d, i < h → j < h → l[i]? = some oi → l[j]? = some oj → oi.dst = some d → oj.dst = some d → i = j
  looks : ∀ i j oi oj t, i < h → j < h → l[i]? = some oi → l[j]? = some oj → t ∈ oi.looks l → oj.dst = some t → ((allBefore ops.toList).getD i 0).testBit j = true
  kill : ∀ i oi t, i < h → l[i]? = some oi → oi.op.kills = some t → oi.guard = none ∧ oi.dst ≠ some t ∧ ∀ j oj, j < h → l[j]? = some oj → lazyOp oj.op = false ∧ (i = j ∨ t ∉ oj.looks l)

/-- A new variable that is made at any time, ahead of the tail. -/
structure NewOK (l : List SOp) (g : Nat) (d : Nat) (z : List SV) : Prop where
  op : l[g]? = some { dst := some d, op := .new z, guard := none }
  lazy : ∀ i o, i < g → l[i]? = some o → lazyOp o.op = false
  dst : ∀ i o, i < g → l[i]? = some o → o.dst ≠ some d
  kill : ∀ i o, i < g → l[i]? = some o → o.op.kills ≠ some d
  looks : ∀ i o, i < g → l[i]? = some o → d ∉ o.looks l

/-- A store of a part of an answer at any time. -/
structure StoreOK (ops : Array Oper) (l : List SOp) (g : Nat) (n : Option Nat) (p : Opd) (u : Nat) : Prop where
  op : l[g]? = some { dst := none, op := .store n p (.t u), guard := none }
  lazy : ∀ i o, i < g → l[i]? = some o → lazyOp o.op = false
  kill : ∀ i o, i < g → l[i]? = some o → o.op.kills = none
  ext : ∃ (j : Nat) (o : SOp) (y : Opd) (k : Nat), j < g ∧ l[j]? = some o ∧ o.dst = some u ∧ o.op = .ext y k
  looks : ∀ t, t ∈ p.reads ++ [u] → ∀ j oj, j < g → l[j]? = some oj → oj.dst = some t → ((allBefore ops.toList).getD g 0).testBit j = true
  free : ∀ j oj, j < g → l[j]? = some oj → ((allBefore ops.toList).getD g 0).testBit j = true ∨ noBx oj.op = true

/-- A new variable and the store into it, at any time. -/
structure New2OK (ops : Array Oper) (l : List SOp) (g : Nat) (d : Nat) (z : List SV) (n : Option Nat) (u : Nat) : Prop where
  new : NewOK l g d z
  op2 : l[g + 1]? = some { dst := none, op := .store n (.t d) (.t u), guard := none }
  b12 : ((allBefore ops.toList).getD (g + 1) 0).testBit g = true
  kill : ∀ i o, i < g → l[i]? = some o → o.op.kills = none
  bld : ∃ (j : Nat) (o : SOp) (c : List SV) (ps : List (Nat × Nat × Opd)), j < g ∧ l[j]? = some o ∧ o.dst = some u ∧ o.op = .build c ps
  ne : u ≠ d
  looks : ∀ j oj, j < g → l[j]? = some oj → oj.dst = some u → ((allBefore ops.toList).getD (g + 1) 0).testBit j = true
  free : ∀ j oj, j < g → l[j]? = some oj → ((allBefore ops.toList).getD (g + 1) 0).testBit j = true ∨ noBx oj.op = true

theorem drawOK_parts {ops : Array Oper} {l : List SOp} {h : Nat} (h1 : edgesBack ops.toList = true) (h2 : (l.take h).all (fun o => headOp o.op) = true) (h3 : lazyOne (l.take h) = true) (h4 : dstsOK (l.take h) = true) (h5 : looksOK (l.take h) l (allBefore ops.toList) = true) (h8 : killsOK (l.take h) l = true) (hlen : l.length = ops.size) (h7 : h ≤ l.length) : DrawOK ops l h := by
  have hmem : ∀ i o, i < h → l[i]? = some o → (o, i) ∈ (l.take h).zipIdx := fun i o hi ho => List.mem_zipIdx_iff_getElem?.2 (by simp [List.getElem?_take, hi, ho])
  refine ⟨hlen, h7, h1, fun i o hi ho => ?_, fun i j oi oj hi hj hoi hoj hli hlj => ?_, fun i j oi oj d hi hj hoi hoj hdi hdj => ?_, fun i j oi oj t hi hj hoi hoj ht hdj => ?_, fun i oi t hi hoi hk => ?_⟩
  · rw [List.all_eq_true] at h2
    exact h2 o (List.mem_of_getElem? (i := i) (by rw [List.getElem?_take, if_pos hi]; exact ho))
  · unfold lazyOne at h3
    rw [List.all_eq_true] at h3
    have := h3 _ (hmem i oi hi hoi)
    rw [List.all_eq_true] at this
    have := this _ (hmem j oj hj hoj)
    simpa [hli, hlj] using this
  · unfold dstsOK at h4
    rw [List.all_eq_true] at h4
    have := h4 _ (hmem i oi hi hoi)
    rw [List.all_eq_true] at this
    have := this _ (hmem j oj hj hoj)
    simpa [hdi, hdj] using this
  · unfold looksOK at h5
    rw [List.all_eq_true] at h5
    have := h5 _ (hmem i oi hi hoi)
    rw [List.all_eq_true] at this
    have := this t ht
    rw [List.all_eq_true] at this
    have := this _ (hmem j oj hj hoj)
    simpa [hdj] using this
  · unfold killsOK at h8
    rw [List.all_eq_true] at h8
    have := h8 _ (hmem i oi hi hoi)
    simp only [hk, Bool.and_eq_true, List.all_eq_true, beq_iff_eq, bne_iff_ne, ne_eq] at this
    obtain ⟨⟨g1, g2⟩, g3⟩ := this
    refine ⟨by simpa using g1, by simpa using g2, fun j oj hj hoj => ?_⟩
    have := g3 _ (hmem j oj hj hoj)
    simpa using this

theorem drawOK_of {ops : Array Oper} {l : List SOp} {h : Nat} (hd : drawHead ops l = some h) : DrawOK ops l h ∧ (tailFrom (allBefore ops.toList) = h ∨ tailFrom (allBefore ops.toList) = h + 1 ∧ ((∃ d z, NewOK l h d z) ∨ ∃ n p u, StoreOK ops l h n p u) ∨ tailFrom (allBefore ops.toList) = h + 2 ∧ ∃ d z n u, New2OK ops l h d z n u) := by
  unfold drawHead at hd
  simp only at hd
  split at hd
  · simp only [Option.some.injEq] at hd
    rename_i hc
    simp only [Bool.and_eq_true, beq_iff_eq, decide_eq_true_eq] at hc
    obtain ⟨⟨⟨⟨⟨⟨⟨h1, h2⟩, h3⟩, h4⟩, h5⟩, h8⟩, h6⟩, h7⟩ := hc
    rw [hd] at h2 h3 h4 h5 h7 h8
    exact ⟨drawOK_parts h1 h2 h3 h4 h5 h8 (by simpa using h6) h7, .inl hd⟩
  · split at hd
    rotate_left
    · split at hd <;> simp only [Option.some.injEq, reduceCtorEq] at hd
      rename_i hc
      simp only [Bool.and_eq_true, beq_iff_eq, decide_eq_true_eq] at hc
      obtain ⟨⟨⟨⟨h1, h0⟩, h2⟩, h6⟩, h7⟩ := hc
      rw [hd] at h2
      have hmem : ∀ i o, i < h → l[i]? = some o → o ∈ l.take h := fun i o hi ho => List.mem_of_getElem? (i := i) (by rw [List.getElem?_take, if_pos hi]; exact ho)
      have hmz : ∀ i o, i < h → l[i]? = some o → (o, i) ∈ (l.take h).zipIdx := fun i o hi ho => List.mem_zipIdx_iff_getElem?.2 (by simp [List.getElem?_take, hi, ho])
      have hlz : (∀ o ∈ l.take h, lazyOp o.op = false) → lazyOne (l.take h) = true := by
        intro hh
        unfold lazyOne
        rw [List.all_eq_true]
        intro p hp
        have := hh p.1 (List.mem_of_getElem? (List.mem_zipIdx_iff_getElem?.1 hp))
        simp [this]
      unfold new2At at h2
      split at h2 <;> try (simp at h2; done)
      rename_i d z n d' u hg hg2
      simp only [Bool.and_eq_true, beq_iff_eq] at h2
      obtain ⟨⟨⟨⟨⟨⟨⟨⟨⟨h2, h4⟩, h5⟩, h8⟩, hdd⟩, hb⟩, h9⟩, hne⟩, h10⟩, h11⟩ := h2
      subst hdd
      rw [List.all_eq_true] at h2
      have h2' : ∀ o ∈ l.take h, headOp o.op = true ∧ lazyOp o.op = false ∧ o.op.kills = none ∧ o.dst ≠ some d ∧ d ∉ o.looks l := fun o ho => by
        have := h2 o ho
        simp only [Bool.and_eq_true, Bool.not_eq_true', beq_iff_eq, bne_iff_ne, ne_eq] at this
        exact ⟨this.1.1.1.1, this.1.1.1.2, this.1.1.2, this.1.2, by simpa using this.2⟩
      refine ⟨drawOK_parts h1 (List.all_eq_true.2 fun o ho => (h2' o ho).1) (hlz fun o ho => (h2' o ho).2.1) h4 h5 h8 (by simpa using h6) (by omega), .inr (.inr ⟨by omega, d, z, n, u, ⟨⟨hg, fun i o hi ho => (h2' o (hmem i o hi ho)).2.1, fun i o hi ho => (h2' o (hmem i o hi ho)).2.2.2.1, fun i o hi ho => by rw [(h2' o (hmem i o hi ho)).2.2.1]; simp, fun i o hi ho => (h2' o (hmem i o hi ho)).2.2.2.2⟩, hg2, hb, fun i o hi ho => (h2' o (hmem i o hi ho)).2.2.1, ?_, by simpa using hne, ?_, ?_⟩⟩)⟩
      · rw [List.any_eq_true] at h9
        obtain ⟨o, ho, h9⟩ := h9
        rw [Bool.and_eq_true, beq_iff_eq] at h9
        obtain ⟨j, hj, hjo⟩ := List.getElem_of_mem ho
        have hjh : j < h := by simp at hj; omega
        have hgo : l[j]? = some o := by
          rw [List.getElem_take] at hjo
          rw [← hjo]; simp
        obtain ⟨h9, h12⟩ := h9
        split at h12
        · rename_i c ps he; exact ⟨j, o, c, ps, hjh, hgo, h9, he⟩
        · simp at h12
      · intro j oj hj hoj hd2
        rw [List.all_eq_true] at h10
        have := h10 _ (hmz j oj hj hoj)
        simp only [hd2, bne_self_eq_false, Bool.false_or] at this
        exact this
      · intro j oj hj hoj
        rw [List.all_eq_true] at h11
        have := h11 _ (hmz j oj hj hoj)
        simpa using this
    simp only [Option.some.injEq] at hd
    rename_i hc
    simp only [Bool.and_eq_true, beq_iff_eq, decide_eq_true_eq] at hc
    obtain ⟨⟨⟨⟨h1, h0⟩, h2⟩, h6⟩, h7⟩ := hc
    rw [hd] at h2
    have hmem : ∀ i o, i < h → l[i]? = some o → o ∈ l.take h := fun i o hi ho => List.mem_of_getElem? (i := i) (by rw [List.getElem?_take, if_pos hi]; exact ho)
    have hmz : ∀ i o, i < h → l[i]? = some o → (o, i) ∈ (l.take h).zipIdx := fun i o hi ho => List.mem_zipIdx_iff_getElem?.2 (by simp [List.getElem?_take, hi, ho])
    have hlz : (∀ o ∈ l.take h, lazyOp o.op = false) → lazyOne (l.take h) = true := by
      intro hh
      unfold lazyOne
      rw [List.all_eq_true]
      intro p hp
      have := hh p.1 (List.mem_of_getElem? (List.mem_zipIdx_iff_getElem?.1 hp))
      simp [this]
    rw [Bool.or_eq_true] at h2
    rcases h2 with h2 | h2
    rotate_left
    · unfold storeAt at h2
      split at h2 <;> try (simp at h2; done)
      rename_i n p u hg
      simp only [Bool.and_eq_true] at h2
      obtain ⟨⟨⟨⟨⟨⟨h2, h4⟩, h5⟩, h8⟩, h9⟩, h10⟩, h11⟩ := h2
      rw [List.all_eq_true] at h2
      have h2' : ∀ o ∈ l.take h, headOp o.op = true ∧ lazyOp o.op = false ∧ o.op.kills = none := fun o ho => by
        have := h2 o ho
        simp only [Bool.and_eq_true, Bool.not_eq_true', beq_iff_eq] at this
        exact ⟨this.1.1, this.1.2, this.2⟩
      refine ⟨drawOK_parts h1 (List.all_eq_true.2 fun o ho => (h2' o ho).1) (hlz fun o ho => (h2' o ho).2.1) h4 h5 h8 (by simpa using h6) (by omega), .inr (.inl ⟨by omega, .inr ⟨n, p, u, hg, fun i o hi ho => (h2' o (hmem i o hi ho)).2.1, fun i o hi ho => (h2' o (hmem i o hi ho)).2.2, ?_, ?_, ?_⟩⟩)⟩
      · rw [List.any_eq_true] at h9
        obtain ⟨o, ho, h9⟩ := h9
        rw [Bool.and_eq_true, beq_iff_eq] at h9
        obtain ⟨j, hj, hjo⟩ := List.getElem_of_mem ho
        have hjh : j < h := by simp at hj; omega
        have hgo : l[j]? = some o := by
          rw [List.getElem_take] at hjo
          rw [← hjo]; simp
        obtain ⟨h9, h12⟩ := h9
        split at h12
        · rename_i y k he; exact ⟨j, o, y, k, hjh, hgo, h9, he⟩
        · simp at h12
      · intro t ht j oj hj hoj hd2
        rw [List.all_eq_true] at h10
        have := h10 t ht
        rw [List.all_eq_true] at this
        have := this _ (hmz j oj hj hoj)
        simp only [hd2, bne_self_eq_false, Bool.false_or] at this
        exact this
      · intro j oj hj hoj
        rw [List.all_eq_true] at h11
        have := h11 _ (hmz j oj hj hoj)
        simpa using this
    unfold newAt at h2
    split at h2 <;> try (simp at h2; done)
    rename_i d z hg
    simp only [Bool.and_eq_true, List.all_eq_true, bne_iff_ne, ne_eq, Bool.not_eq_true'] at h2
    obtain ⟨⟨⟨h2, h4⟩, h5⟩, h8⟩ := h2
    refine ⟨drawOK_parts h1 (List.all_eq_true.2 fun o ho => (h2 o ho).1.1.1.1) ?_ h4 h5 h8 (by simpa using h6) (by omega), .inr (.inl ⟨by omega, .inl ⟨d, z, hg, fun i o hi ho => (h2 o (hmem i o hi ho)).1.1.1.2, fun i o hi ho => (h2 o (hmem i o hi ho)).1.1.2, fun i o hi ho => (h2 o (hmem i o hi ho)).1.2, fun i o hi ho => ?_⟩⟩)⟩
    · unfold lazyOne
      rw [List.all_eq_true]
      intro p hp
      have := (h2 p.1 (List.mem_of_getElem? (List.mem_zipIdx_iff_getElem?.1 hp))).1.1.1.2
      simp [this]
    · have := (h2 o (hmem i o hi ho)).2
      simpa using this

/-- The head's states in the text's order. -/
def hs (E : Env) (cf : CallF) (l : List SOp) (s0 : St) : Nat → St
  | 0 => s0
  | i + 1 => match l[i]? with
    | some o => (opRun E cf true l o (hs E cf l s0 i)).getD (hs E cf l s0 i)
    | none => hs E cf l s0 i

theorem hs_run {l : List SOp} {s0 sH : St} {h : Nat} (hl : h ≤ l.length) : ∀ (k i : Nat), i + k = h → runOps E cf true l ((l.drop i).take k) (hs E cf l s0 i) = some sH →
    (∀ j o, i ≤ j → j < h → l[j]? = some o → opRun E cf true l o (hs E cf l s0 j) = some (hs E cf l s0 (j + 1))) ∧ hs E cf l s0 h = sH
  | 0, i, hi, hr => by
    simp only [List.take_zero, runOps, Option.some.injEq] at hr
    rw [Nat.add_zero] at hi
    subst hi
    exact ⟨fun j o h1 h2 => by omega, hr⟩
  | k + 1, i, hi, hr => by
    have hil : i < l.length := by omega
    have hg : l[i]? = some l[i] := by simp [hil]
    rw [drop_cons hg, List.take_succ_cons] at hr
    simp only [runOps] at hr
    split at hr <;> try (simp at hr; done)
    rename_i s2 hs2
    have hnext : hs E cf l s0 (i + 1) = s2 := by simp only [hs, hg, hs2, Option.getD_some]
    rw [← hnext] at hr
    obtain ⟨k1, k2⟩ := hs_run hl k (i + 1) (by omega) hr
    refine ⟨fun j o h1 h2 ho => ?_, k2⟩
    by_cases hj : j = i
    · subst hj
      rw [hg] at ho
      obtain rfl := Option.some.inj ho
      rw [hnext]; exact hs2
    · exact k1 j o (by omega) h2 ho

theorem fin_bx (s : St) (d : Option Nat) (v : AV) (r : Option (Option (Nat × Loc))) : (fin s d v r).bx = s.bx ∧ ((fin s d v r).df, (fin s d v r).lk, (fin s d v r).mu) = (s.df, s.lk, s.mu) ∧ (fin s d v r).tm.length = s.tm.length := by
  cases r <;> cases d <;> simp [fin, St.put, St.set]

theorem rd_big {s : St} {t : Nat} (h : s.tm.length ≤ t) : s.rd t = .sv .undef := by
  simp only [St.rd, List.getD_eq_getElem?_getD]
  rw [List.getElem?_eq_none h]; rfl

theorem fin_rd_ne (s : St) (d : Option Nat) (v : AV) (r : Option (Option (Nat × Loc))) {t : Nat} (h : d ≠ some t) : (fin s d v r).rd t = s.rd t := by
  have key : (s.put d v).rd t = s.rd t := by
    cases d with
    | none => rfl
    | some d' =>
      simp only [St.put, St.rd, St.set, List.getD_eq_getElem?_getD, List.getElem?_set]
      rw [if_neg (by intro e; exact h (by rw [e]))]
  cases r with
  | none => exact key
  | some x => exact key

theorem fin_rd_eq (s s' : St) (v : AV) (r : Option (Option (Nat × Loc))) {t : Nat} (hl : s'.tm.length = s.tm.length) : (fin s (some t) v r).rd t = (fin s' (some t) v r).rd t := by
  have key : ∀ x : St, (fin x (some t) v r).rd t = if t < x.tm.length then v else .sv .undef := by
    intro x
    have : (fin x (some t) v r).rd t = (x.put (some t) v).rd t := by cases r <;> rfl
    rw [this]
    by_cases ht : t < x.tm.length
    · rw [St.put, rd_set x t t v ht, if_pos rfl, if_pos ht]
    · rw [if_neg ht, rd_big (by simp [St.put, St.set]; omega)]
  rw [key, key, hl]

theorem fin_lz_none (s : St) (d : Option Nat) (v : AV) (h : s.lz = none) : (fin s d v none).lz = none := by
  cases d <;> simp [fin, St.put, St.set, h, clearTmp]

theorem fin_lz_keep (s : St) (d : Option Nat) (v : AV) (h : ∀ d' ℓ, s.lz = some (d', ℓ) → d ≠ some d' ∧ ∀ t, ℓ = .tmp t → d ≠ some t) : (fin s d v none).lz = s.lz := by
  cases d with
  | none => rfl
  | some x =>
    simp only [fin, St.put, St.set]
    cases hz : s.lz with
    | none => rfl
    | some p =>
      obtain ⟨d', ℓ⟩ := p
      obtain ⟨h1, h2⟩ := h d' ℓ hz
      simp only [clearTmp]
      rw [if_neg (by intro e; exact h1 (by rw [e]))]
      cases ℓ with
      | tmp t => simp only; rw [if_neg (by intro e; exact h2 t rfl (by rw [e]))]
      | _ => rfl

theorem bits_lt {ops : Array Oper} (hback : edgesBack ops.toList = true) : ∀ k, k < ops.size → ∀ j, ((allBefore ops.toList).getD k 0).testBit j = true → j < k := by
  intro k hk j hj
  have hcl : Clo ops (Array.replicate ops.size true) := ⟨by simp, fun i' o' hi' _ e he hb => by
    have hbk := hback
    unfold edgesBack at hbk
    rw [List.all_eq_true] at hbk
    have h4 := hbk (o', i') (List.mem_zipIdx_iff_getElem?.2 (by simpa using hi'))
    simp only [Array.all_eq_true'] at h4
    have h5 : e.on < i' := by simpa [hb] using h4 e he
    have h6 := (Array.getElem?_eq_some_iff.1 hi').1
    have : e.on < ops.size := by omega
    simp [Array.getD_eq_getD_getElem?, this]⟩
  exact (hcl.bits hback k ops[k] (by simp [hk]) (fun e he hb => hcl.clo k _ (by simp [hk]) (by simp [Array.getD_eq_getD_getElem?, hk]) e he hb) j hj).2

section head
variable {ops : Array Oper} {l : List SOp} {h : Nat} {s0 : St} (hD : DrawOK ops l h) (hz0 : s0.lz = none)
  (hrun : ∀ j o, j < h → l[j]? = some o → opRun E cf true l o (hs E cf l s0 j) = some (hs E cf l s0 (j + 1)))

/-- What is so after some of the head's operations. -/
structure HI (E : Env) (cf : CallF) (l : List SOp) (h : Nat) (s0 : St) (p : Nat → Bool) (s : St) : Prop where
  bx : s.bx = s0.bx
  df : (s.df, s.lk, s.mu) = (s0.df, s0.lk, s0.mu)
  len : s.tm.length = s0.tm.length
  rdN : ∀ t, (∀ i o, i < h → l[i]? = some o → o.dst = some t ∨ o.op.kills = some t → p i = false) → s.rd t = s0.rd t
  rdV : ∀ i o t, i < h → l[i]? = some o → o.dst = some t → p i = true → (∀ k ok, k < h → l[k]? = some ok → ok.op.kills = some t → p k = false) → s.rd t = (hs E cf l s0 (i + 1)).rd t
  rdK : ∀ k o t, k < h → l[k]? = some o → o.op.kills = some t → p k = true → s.rd t = .sv .undef
  lzN : (∀ i o, i < h → l[i]? = some o → lazyOp o.op = true → p i = false) → s.lz = none
  lzV : ∀ i o, i < h → l[i]? = some o → lazyOp o.op = true → p i = true → s.lz = (hs E cf l s0 (i + 1)).lz

/-- What the head's read of what is appended to left. -/
def LzP (E : Env) (cf : CallF) (l : List SOp) (s0 : St) (k : Nat) (o : SOp) : Prop :=
  ∀ d ℓ, (hs E cf l s0 (k + 1)).lz = some (d, ℓ) → o.dst = some d ∧ ∀ t, ℓ = .tmp t → t ∈ o.looks l

theorem HI.step {p : Nat → Bool} {s : St} (hI : HI E cf l h s0 p s) {i : Nat} {o : SOp} (hS : HI E cf l h s0 (fun j => decide (j < i)) (hs E cf l s0 i)) (hD : DrawOK ops l h)
    (hrun : ∀ j o, j < h → l[j]? = some o → opRun E cf true l o (hs E cf l s0 j) = some (hs E cf l s0 (j + 1)))
    (hih : i < h) (ho : l[i]? = some o) (hu : p i = false) (hbits : ∀ j, ((allBefore ops.toList).getD i 0).testBit j = true → p j = true ∧ j < i)
    (hlater : ∀ k, k < h → p k = true → ((allBefore ops.toList).getD k 0).testBit i = true → False) (hLz : ∀ k o, k < h → l[k]? = some o → lazyOp o.op = true → p k = true → LzP E cf l s0 k o) :
    ∃ s2, opRun E cf true l o s = some s2 ∧ HI E cf l h s0 (fun j => p j || decide (j = i)) s2 ∧ (lazyOp o.op = true → LzP E cf l s0 i o) := by
  have hr := hrun i o hih ho
  have hlen : s.tm.length = (hs E cf l s0 i).tm.length := by rw [hI.len, hS.len]
  have hkl : ∀ k ok t, k < h → l[k]? = some ok → ok.op.kills = some t → t ∈ ok.looks l := by
    intro k ok t _ _ hk
    have : t ∈ ok.op.reads := by
      revert hk
      cases ok.op <;> simp only [AOp.kills, reduceCtorEq, false_implies]
      rename_i e k b d x y
      cases x <;> simp only [reduceCtorEq, false_implies, Option.some.injEq]
      rintro rfl
      simp [AOp.reads, Opd.reads]
    simp [SOp.looks, this]
  have halone : ∀ k ok t, k < h → l[k]? = some ok → ok.op.kills = some t → t ∈ o.looks l → k = i := by
    intro k ok t hk hok hkk ht
    rcases ((hD.kill k ok t hk hok hkk).2.2 i o hih ho).2 with e | e
    · exact e
    · exact absurd ht e
  have hlooks : ∀ t ∈ o.looks l, s.rd t = (hs E cf l s0 i).rd t := by
    intro t ht
    by_cases hex : ∃ j oj, j < h ∧ l[j]? = some oj ∧ oj.dst = some t
    · obtain ⟨j, oj, hj, hoj, hdj⟩ := hex
      obtain ⟨b1, b2⟩ := hbits j (hD.looks i j o oj t hih hj ho hoj ht hdj)
      rw [hI.rdV j oj t hj hoj hdj b1 (fun k ok hk hok hkk => by rw [halone k ok t hk hok hkk ht]; exact hu), hS.rdV j oj t hj hoj hdj (by simpa using b2) (fun k ok hk hok hkk => by rw [halone k ok t hk hok hkk ht]; simp)]
    · have hno : ∀ j oj, j < h → l[j]? = some oj → oj.dst ≠ some t := fun j oj h1 h2 h3 => hex ⟨j, oj, h1, h2, h3⟩
      rw [hI.rdN t (fun j oj h1 h2 h3 => by
          rcases h3 with h3 | h3
          · exact absurd h3 (hno j oj h1 h2)
          · rw [halone j oj t h1 h2 h3 ht]; exact hu), hS.rdN t (fun j oj h1 h2 h3 => by
          rcases h3 with h3 | h3
          · exact absurd h3 (hno j oj h1 h2)
          · rw [halone j oj t h1 h2 h3 ht]; simp)]
  have hlz : lazyOp o.op = true → (hs E cf l s0 i).lz = none ∧ s.lz = none := by
    intro hl
    refine ⟨hS.lzN (fun j oj hj hoj hlj => ?_), hI.lzN (fun j oj hj hoj hlj => ?_)⟩
    · have := hD.one i j o oj hih hj ho hoj hl hlj
      subst this; simp
    · have := hD.one i j o oj hih hj ho hoj hl hlj
      subst this; exact hu
  have hkz : o.op.kills ≠ none → o.guard = none ∧ (hs E cf l s0 i).lz = none ∧ s.lz = none := by
    intro hk
    obtain ⟨t, ht⟩ := Option.ne_none_iff_exists'.1 hk
    obtain ⟨k1, k2, k3⟩ := hD.kill i o t hih ho ht
    exact ⟨k1, hS.lzN (fun j oj hj hoj hlj => by rw [(k3 j oj hj hoj).1] at hlj; simp at hlj), hI.lzN (fun j oj hj hoj hlj => by rw [(k3 j oj hj hoj).1] at hlj; simp at hlj)⟩
  obtain ⟨v, r, e1, e2, e3, e4⟩ := opRun_local (s := hs E cf l s0 i) (s' := s) (e := []) (by rw [hI.bx, hS.bx, List.append_nil]) hlen hlooks (hD.head i o hih ho) hr hlz hkz
  have hfne : ∀ (x : St) t, o.op.kills ≠ some t → (x.forgetO o.op.kills).rd t = x.rd t := by
    intro x t hne
    cases hk : o.op.kills with
    | none => rfl
    | some u =>
      have : u ≠ t := fun e => hne (by rw [hk, e])
      simp only [St.forgetO, St.forget, St.rd, List.getD_eq_getElem?_getD, List.getElem?_set, if_neg this]
  have hfeq : ∀ (x : St) t, o.op.kills = some t → (x.forgetO o.op.kills).rd t = .sv .undef := by
    intro x t hk
    rw [hk]
    simp only [St.forgetO, St.forget, St.rd, List.getD_eq_getElem?_getD, List.getElem?_set, if_true]
    split <;> rfl
  refine ⟨_, e2, ?_, fun hl d ℓ hd => ?_⟩
  · obtain ⟨f1, f2, f3⟩ := fin_bx (s.forgetO o.op.kills) o.dst v r
    obtain ⟨f4, f5⟩ := forgetO_bx s o.op.kills
    have f6 := forgetO_len s o.op.kills
    refine ⟨f1.trans (f4.trans hI.bx), f2.trans (f5.trans hI.df), f3.trans (f6.trans hI.len), fun t ht => ?_, fun j oj t hj hoj hdj hpj hnk => ?_, fun k ok t hk hok hkk hpk => ?_, fun hn => ?_, fun j oj hj hoj hlj hpj => ?_⟩
    · have hne : o.dst ≠ some t := fun e => by have := ht i o hih ho (.inl e); simp at this
      have hne2 : o.op.kills ≠ some t := fun e => by have := ht i o hih ho (.inr e); simp at this
      rw [fin_rd_ne _ o.dst v r hne, hfne s t hne2]
      exact hI.rdN t (fun j oj h1 h2 h3 => by have := ht j oj h1 h2 h3; simp only [Bool.or_eq_false_iff] at this; exact this.1)
    · have hne2 : o.op.kills ≠ some t := fun e => by have := hnk i o hih ho e; simp at this
      by_cases hji : j = i
      · subst hji
        rw [ho] at hoj
        obtain rfl := Option.some.inj hoj
        rw [hdj] at e1 ⊢
        rw [e1]
        exact fin_rd_eq _ _ _ _ (by rw [forgetO_len, forgetO_len]; exact hlen.symm)
      · have hne : o.dst ≠ some t := fun e => hji (hD.dst j i oj o t hj hih hoj ho hdj e)
        rw [fin_rd_ne _ o.dst v r hne, hfne s t hne2]
        exact hI.rdV j oj t hj hoj hdj (by simpa [hji] using hpj) (fun k ok h1 h2 h3 => by have := hnk k ok h1 h2 h3; simp only [Bool.or_eq_false_iff] at this; exact this.1)
    · by_cases hki : k = i
      · subst hki
        rw [ho] at hok
        obtain rfl := Option.some.inj hok
        rw [fin_rd_ne _ o.dst v r (hD.kill k o t hk ho hkk).2.1]
        exact hfeq s t hkk
      · have hpk' : p k = true := by simpa [hki] using hpk
        have hne : o.dst ≠ some t := fun e => hlater k hk hpk' (hD.looks k i ok o t hk hih hok ho (hkl k ok t hk hok hkk) e)
        have hne2 : o.op.kills ≠ some t := fun e => hki (halone k ok t hk hok hkk (hkl i o t hih ho e))
        rw [fin_rd_ne _ o.dst v r hne, hfne s t hne2]
        exact hI.rdK k ok t hk hok hkk hpk'
    · have hlo : lazyOp o.op = false := by
        cases hl : lazyOp o.op with
        | false => rfl
        | true => have := hn i o hih ho hl; simp at this
      rw [e3 hlo]
      exact fin_lz_none _ o.dst v ((forgetO_lz s _).trans (hI.lzN (fun j oj h1 h2 h3 => by have := hn j oj h1 h2 h3; simp only [Bool.or_eq_false_iff] at this; exact this.1)))
    · by_cases hji : j = i
      · subst hji
        rw [ho] at hoj
        obtain rfl := Option.some.inj hoj
        obtain ⟨x, hx, _⟩ := e4 hlj
        rw [e1, hx]
        rfl
      · have hpj' : p j = true := by simpa [hji] using hpj
        have hlo : lazyOp o.op = false := by
          cases hl : lazyOp o.op with
          | false => rfl
          | true => exact absurd (hD.one j i oj o hj hih hoj ho hlj hl) hji
        have hsl := hI.lzV j oj hj hoj hlj hpj'
        rw [e3 hlo, fin_lz_keep (s.forgetO o.op.kills) o.dst v (fun d' ℓ hd => ?_)]
        · exact (forgetO_lz s _).trans hsl
        · rw [forgetO_lz, hsl] at hd
          obtain ⟨g1, g2⟩ := hLz j oj hj hoj hlj hpj' d' ℓ hd
          refine ⟨fun e => hji (hD.dst j i oj o d' hj hih hoj ho g1 e), fun t ht e => ?_⟩
          exact hlater j hj hpj' (hD.looks j i oj o t hj hih hoj ho (g2 t ht) e)
  · obtain ⟨x, hx, hx2⟩ := e4 hl
    rw [e1, hx] at hd
    exact hx2 d ℓ hd

include hD hz0 hrun in
/-- The text's order is one of the orders. -/
theorem hs_HI : ∀ i, i ≤ h → HI E cf l h s0 (fun j => decide (j < i)) (hs E cf l s0 i) ∧ ∀ k o, k < i → l[k]? = some o → lazyOp o.op = true → LzP E cf l s0 k o
  | 0, _ => ⟨⟨rfl, rfl, rfl, fun _ _ => rfl, fun i o t _ _ _ h => by simp at h, fun i o t _ _ _ h => by simp at h, fun _ => hz0, fun i o _ _ _ h => by simp at h⟩, fun k o h => by omega⟩
  | i + 1, hi => by
    have hih : i < h := by omega
    have hil : i < l.length := by have := hD.hle; omega
    have ho : l[i]? = some l[i] := by simp [hil]
    obtain ⟨hI, hLz⟩ := hs_HI i (by omega)
    have hedge := bits_lt hD.back
    have hios : i < ops.size := by rw [← hD.len]; exact hil
    obtain ⟨s2, h1, h2, h3⟩ := HI.step (p := fun j => decide (j < i)) (s := hs E cf l s0 i) hI hI hD hrun hih ho (by simp) (fun j hj => ⟨by simpa using hedge i hios j hj, hedge i hios j hj⟩) (fun k hk hp hb => by
        have : k < i := by simpa using hp
        have := hedge k (by omega) i hb
        omega) (fun k o hk hok hlk hp => hLz k o (by simpa using hp) hok hlk)
    have h4 := hrun i _ hih ho
    rw [h4] at h1
    obtain rfl := Option.some.inj h1
    have hp : (fun j => decide (j < i) || decide (j = i)) = fun j => decide (j < i + 1) := by
      funext j
      by_cases hj : j < i
      · simp [hj]; omega
      · by_cases hj2 : j = i
        · simp [hj2]
        · simp [hj, hj2]; omega
    rw [hp] at h2
    refine ⟨h2, fun k o hk hok hlk => ?_⟩
    by_cases hki : k = i
    · subst hki
      rw [ho] at hok
      obtain rfl := Option.some.inj hok
      exact h3 hlk
    · exact hLz k o (by omega) hok hlk

end head

end Go.Ev

set_option linter.unusedSimpArgs false
set_option linter.unusedVariables false
namespace Go.Ev
variable {P : Program} {E : Env} {γ : Gh} {a : Act} {w : World} {s : St} {cf : CallF} {q : Bool} {s1 : St} {av : AV}

def unl (listed : Array Bool) : Nat := listed.toList.countP (fun b => !b)

theorem unl_set {listed : Array Bool} {i : Nat} (hi : i < listed.size) (hu : listed.getD i false = false) : unl (listed.setIfInBounds i true) + 1 = unl listed := by
  have hg : listed.toList[i]'(by simpa using hi) = false := by
    simp [Array.getD_eq_getD_getElem?, hi] at hu
    simpa using hu
  unfold unl
  rw [Array.toList_setIfInBounds, List.countP_set (by simpa using hi), hg]
  have : 0 < List.countP (fun b => !b) listed.toList := by
    rw [List.countP_pos_iff]
    exact ⟨false, by rw [← hg]; exact List.getElem_mem _, rfl⟩
  simp only [Bool.not_false, if_true, Bool.not_true, Bool.false_eq_true, if_false]
  omega

theorem unl_zero {listed : Array Bool} (h : unl listed = 0) : ∀ i, i < listed.size → listed.getD i false = true := by
  intro i hi
  unfold unl at h
  rw [List.countP_eq_zero] at h
  have := h listed[i] (by simp)
  simp [Array.getD_eq_getD_getElem?, hi]
  simpa using this

theorem set_p {listed : Array Bool} {i : Nat} (hi : i < listed.size) : (fun j => (listed.setIfInBounds i true).getD j false) = fun j => listed.getD j false || decide (j = i) := by
  funext j
  by_cases hij : i = j
  · subst hij; simp [Array.getD_eq_getD_getElem?, hi]
  · rw [getD_set_ne false hij]; simp [Ne.symm hij]

theorem st_ext {s s' : St} (hlen : s.tm.length = s'.tm.length) (hrd : ∀ t, s.rd t = s'.rd t) (hl : s.lz = s'.lz) (hb : s.bx = s'.bx) (hd : (s.df, s.lk, s.mu) = (s'.df, s'.lk, s'.mu)) : s = s' := by
  have htm : s.tm = s'.tm := by
    apply List.ext_getElem hlen
    intro t h1 h2
    have := hrd t
    simpa [St.rd, List.getD_eq_getElem?_getD, h1, h2] using this
  cases s; cases s'; simp_all

theorem HI.full {l : List SOp} {h : Nat} {s0 s2 : St} {p : Nat → Bool} (g2 : HI E cf l h s0 p s2) (hH : HI E cf l h s0 (fun j => decide (j < h)) (hs E cf l s0 h)) (hallh : ∀ j, j < h → p j = true) : s2 = hs E cf l s0 h := by
  refine st_ext (by rw [g2.len, hH.len]) (fun t => ?_) ?_ (by rw [g2.bx, hH.bx]) (by rw [g2.df, hH.df])
  · by_cases hkx : ∃ k ok, k < h ∧ l[k]? = some ok ∧ ok.op.kills = some t
    · obtain ⟨k, ok, hk, hok, hkk⟩ := hkx
      rw [g2.rdK k ok t hk hok hkk (hallh k hk), hH.rdK k ok t hk hok hkk (by simpa using hk)]
    by_cases hdx : ∃ j oj, j < h ∧ l[j]? = some oj ∧ oj.dst = some t
    · obtain ⟨j, oj, hj, hoj, hdj⟩ := hdx
      rw [g2.rdV j oj t hj hoj hdj (hallh j hj) (fun k ok h1 h2 h3 => absurd ⟨k, ok, h1, h2, h3⟩ hkx), hH.rdV j oj t hj hoj hdj (by simpa using hj) (fun k ok h1 h2 h3 => absurd ⟨k, ok, h1, h2, h3⟩ hkx)]
    · rw [g2.rdN t (fun j oj h1 h2 h3 => h3.elim (fun h3 => absurd ⟨j, oj, h1, h2, h3⟩ hdx) (fun h3 => absurd ⟨j, oj, h1, h2, h3⟩ hkx)), hH.rdN t (fun j oj h1 h2 h3 => h3.elim (fun h3 => absurd ⟨j, oj, h1, h2, h3⟩ hdx) (fun h3 => absurd ⟨j, oj, h1, h2, h3⟩ hkx))]
  · by_cases hlx : ∃ j oj, j < h ∧ l[j]? = some oj ∧ lazyOp oj.op = true
    · obtain ⟨j, oj, hj, hoj, hlj⟩ := hlx
      rw [g2.lzV j oj hj hoj hlj (hallh j hj), hH.lzV j oj hj hoj hlj (by simpa using hj)]
    · rw [g2.lzN (fun j oj h1 h2 h3 => absurd ⟨j, oj, h1, h2, h3⟩ hlx), hH.lzN (fun j oj h1 h2 h3 => absurd ⟨j, oj, h1, h2, h3⟩ hlx)]

theorem HI.congr {l : List SOp} {h : Nat} {s0 t : St} {p p' : Nat → Bool} (hp : ∀ i, i < h → p' i = p i) (g : HI E cf l h s0 p t) : HI E cf l h s0 p' t := by
  refine ⟨g.bx, g.df, g.len, fun u hu => g.rdN u (fun i o h1 h2 h3 => by rw [← hp i h1]; exact hu i o h1 h2 h3), fun i o u h1 h2 h3 h4 h5 => g.rdV i o u h1 h2 h3 (by rw [← hp i h1]; exact h4) (fun k ok k1 k2 k3 => by rw [← hp k k1]; exact h5 k ok k1 k2 k3), fun k o u h1 h2 h3 h4 => g.rdK k o u h1 h2 h3 (by rw [← hp k h1]; exact h4), fun hn => g.lzN (fun i o h1 h2 h3 => by rw [← hp i h1]; exact hn i o h1 h2 h3), fun i o h1 h2 h3 h4 => g.lzV i o h1 h2 h3 (by rw [← hp i h1]; exact h4)⟩

/-- With the new variable made. -/
def addN (n d : Nat) (z : List SV) (t : St) : St := { (t.put (some d) (.ptr n 0)) with bx := t.bx ++ [.live (z.map .sv)] }

theorem opRun_new {l : List SOp} {n d : Nat} {z : List SV} {t : St} (hn : t.bx.length = n) : opRun E cf false l { dst := some d, op := .new z, guard := none } t = some (addN n d z t) := by
  subst hn
  rfl

theorem rd_setL (s : St) (t u : Nat) (v : AV) : ({ s with tm := s.tm.set t v } : St).rd u = if u = t ∧ t < s.tm.length then v else s.rd u := by
  simp only [St.rd, List.getD_eq_getElem?_getD, List.getElem?_set]
  by_cases h : t = u
  · subst h
    by_cases hl : t < s.tm.length
    · simp [hl]
    · simp [hl]
  · rw [if_neg h, if_neg (fun e => h e.1.symm)]

theorem addN_comm {n d : Nat} {z : List SV} {t : St} {k : Option Nat} {dst : Option Nat} {v : AV} (hk : k ≠ some d) (hd : dst ≠ some d) (hz : t.lz = none) : fin ((addN n d z t).forgetO k) dst v none = addN n d z (fin (t.forgetO k) dst v none) := by
  cases k with
  | none =>
    cases dst with
    | none => rfl
    | some x =>
      have hx : x ≠ d := fun e => hd (by rw [e])
      simp only [fin, addN, St.put, St.set, St.forgetO, hz, clearTmp]
      rw [List.set_comm _ _ (fun e => hx e.symm)]
  | some y =>
    have hy : y ≠ d := fun e => hk (by rw [e])
    cases dst with
    | none =>
      simp only [fin, addN, St.put, St.set, St.forgetO, St.forget, hz, clearTmp]
      rw [List.set_comm _ _ (fun e => hy e.symm)]
    | some x =>
      have hx : x ≠ d := fun e => hd (by rw [e])
      simp only [fin, addN, St.put, St.set, St.forgetO, St.forget, hz, clearTmp]
      congr 1
      rw [List.set_comm _ _ (fun e => hy e.symm), List.set_comm (l := (t.tm.set y _)) _ _ (fun e => hx e.symm)]

theorem opRun_addN {ops : Array Oper} {l : List SOp} {g n d : Nat} {z : List SV} {i : Nat} {o : SOp} (hD : DrawOK ops l g) (hN : NewOK l g d z) (hi : i < g) (ho : l[i]? = some o) {t t2 : St} (hz : t.lz = none) (h : opRun E cf true l o t = some t2) :
    opRun E cf true l o (addN n d z t) = some (addN n d z t2) := by
  have hlo := hN.lazy i o hi ho
  have hdn := hN.dst i o hi ho
  have hkn := hN.kill i o hi ho
  have hzz : (addN n d z t).lz = none := by simp only [addN, St.put, St.set, hz, clearTmp]
  have hrd : ∀ u ∈ o.looks l, (addN n d z t).rd u = t.rd u := by
    intro u hu
    have hne : u ≠ d := fun e => hN.looks i o hi ho (e ▸ hu)
    show ({ t with tm := t.tm.set d (.ptr n 0) } : St).rd u = _
    rw [rd_setL, if_neg (fun e => hne e.1)]
  obtain ⟨v, r, e1, e2, e3, _⟩ := opRun_local (s := t) (s' := addN n d z t) (e := [.live (z.map .sv)]) rfl (by simp [addN, St.put, St.set]) hrd (hD.head i o hi ho) h (fun hl => by rw [hlo] at hl; simp at hl) (fun hk => by
    obtain ⟨u, hu⟩ := Option.ne_none_iff_exists'.1 hk
    exact ⟨(hD.kill i o u hi ho hu).1, hz, hzz⟩)
  rw [e2, e1, e3 hlo, addN_comm hkn hdn hz]

/-- A store of a plain value changes the boxes alone, and looks at nothing else. -/
theorem doStore_sv {s s2 : St} {n : Option Nat} {pv : AV} {x : SV} {o : Opd} (h : doStore s n pv (.sv x) o = some s2) : s2 = { s with bx := s2.bx, lz := none } ∧ ∀ s' : St, s'.bx = s.bx → doStore s' n pv (.sv x) o = some { s' with bx := s2.bx, lz := none } := by
  unfold doStore at h
  split at h <;> try (simp at h; done)
  rename_i i off
  split at h <;> try (simp at h; done)
  rename_i cs hcs
  split at h
  · split at h <;> try (simp at h; done)
    rename_i hoff
    split at h <;> try (simp at h; done)
    · rename_i e; exact absurd e (by simp)
    · rename_i w hx1 hx2 hx3 hx4 e
      simp only [AV.sv.injEq] at e
      subst e
      simp only [Option.some.injEq] at h
      subst h
      refine ⟨rfl, fun s' hb => ?_⟩
      unfold doStore
      simp only [hb, hcs, hoff, if_true]
    · rename_i e; exact absurd e (by simp)
    · rename_i e; exact absurd e (by simp)
    · rename_i e; exact absurd e (by simp)
  · split at h <;> try (simp at h; done)
    rename_i vs e
    split at h <;> simp only [Option.some.injEq, reduceCtorEq] at h
    rename_i hl
    subst h
    refine ⟨rfl, fun s' hb => ?_⟩
    unfold doStore
    simp only [AV.sv.injEq] at e
    subst e
    simp only [hb, hcs]
    rw [if_pos hl]

/-- A part of an answer is a plain value. -/
theorem ext_sv {l : List SOp} {o : SOp} {s s1 : St} {y : Opd} {k u : Nat} (ho : o.op = .ext y k) (hd : o.dst = some u) (h : opRun E cf true l o s = some s1) : ∃ x, s1.rd u = .sv x := by
  have key : ∀ (t : St) (v : SV) (z : Option (Nat × Loc)), ∃ x, ({ (t.put (some u) (.sv v)) with lz := z } : St).rd u = .sv x := by
    intro t v z
    by_cases hu : u < t.tm.length
    · exact ⟨v, by simp [St.put, St.set, St.rd, List.getD_eq_getElem?_getD, hu]⟩
    · exact ⟨.undef, rd_big (by simp [St.put, St.set]; omega)⟩
  unfold opRun at h
  split at h
  · simp only [stepOp, pre_true, ho, hd, lazyAfter] at h
    split at h <;> try (simp at h; done)
    rename_i v s' hst
    simp only [stepV] at hst
    split at hst <;> try (simp at hst; done)
    split at hst <;> simp only [Option.some.injEq, Prod.mk.injEq, reduceCtorEq] at hst
    rename_i vs _ w _
    obtain ⟨rfl, rfl⟩ := hst
    simp only [Option.some.injEq] at h
    subst h
    exact key _ _ _
  · simp only [hd, Option.some.injEq] at h
    subst h
    by_cases hu : u < s.tm.length
    · exact ⟨.off, by simp [St.put, St.set, St.rd, List.getD_eq_getElem?_getD, hu]⟩
    · exact ⟨.undef, rd_big (by simp [St.put, St.set]; omega)⟩
  · simp at h

theorem opRun_setB {ops : Array Oper} {l : List SOp} {g : Nat} {i : Nat} {o : SOp} {B : List Box} (hD : DrawOK ops l g) (hi : i < g) (ho : l[i]? = some o) (hn : noBx o.op = true) (hlo : lazyOp o.op = false) (hk : o.op.kills = none) {t t2 : St} (h : opRun E cf true l o t = some t2) :
    opRun E cf true l o { t with bx := B } = some { t2 with bx := B } := by
  obtain ⟨v, r, e1, e2, e3, _⟩ := opRun_local2 (s := t) (s' := { t with bx := B }) (e := []) (.inr hn) rfl (fun _ _ => rfl) (hD.head i o hi ho) h (fun hl => by rw [hlo] at hl; simp at hl) (fun hk2 => absurd hk hk2)
  rw [e2, e1, e3 hlo, hk]
  cases hd : o.dst <;> rfl

/-- What of two operations that come at any time is done. -/
def ef (b1 b2 : Bool) (A B : St → St) (t : St) : St := if b2 then B t else if b1 then A t else t

/-- What is put together is a plain value. -/
theorem build_sv {l : List SOp} {o : SOp} {s s1 : St} {c : List SV} {ps : List (Nat × Nat × Opd)} {u : Nat} (ho : o.op = .build c ps) (hd : o.dst = some u) (h : opRun E cf true l o s = some s1) : ∃ x, s1.rd u = .sv x := by
  have key : ∀ (t : St) (v : SV) (z : Option (Nat × Loc)), ∃ x, ({ (t.put (some u) (.sv v)) with lz := z } : St).rd u = .sv x := by
    intro t v z
    by_cases hu : u < t.tm.length
    · exact ⟨v, by simp [St.put, St.set, St.rd, List.getD_eq_getElem?_getD, hu]⟩
    · exact ⟨.undef, rd_big (by simp [St.put, St.set]; omega)⟩
  unfold opRun at h
  split at h
  · simp only [stepOp, pre_true, ho, hd, lazyAfter] at h
    split at h <;> try (simp at h; done)
    rename_i v s' hst
    simp only [stepV] at hst
    split at hst <;> try (simp at hst; done)
    try split at hst
    all_goals try (simp at hst; done)
    all_goals simp only [Option.some.injEq, Prod.mk.injEq, reduceCtorEq] at hst
    all_goals obtain ⟨rfl, rfl⟩ := hst
    all_goals simp only [Option.some.injEq] at h
    all_goals subst h
    all_goals exact key _ _ _
  · simp only [hd, Option.some.injEq] at h
    subst h
    by_cases hu : u < s.tm.length
    · exact ⟨.off, by simp [St.put, St.set, St.rd, List.getD_eq_getElem?_getD, hu]⟩
    · exact ⟨.undef, rd_big (by simp [St.put, St.set]; omega)⟩
  · simp at h

section
variable {ops : Array Oper} {l : List SOp} {h : Nat} {s0 sF : St} {Q : Exit → Act → World → Prop} {γ0 : Gh} {w0 : World}

theorem any_ok (hP : PureOK P E) (hC : CfOK P E cf) (hl : allSome (ops.toList.map (cOper P ops)) = some l) (hD : DrawOK ops l h) (hT : tailFrom (allBefore ops.toList) = h) (hz0 : s0.lz = none)
    (hrun : ∀ j o, j < h → l[j]? = some o → opRun E cf true l o (hs E cf l s0 j) = some (hs E cf l s0 (j + 1))) (htail : runOps E cf false l (l.drop h) (hs E cf l s0 h) = some sF)
    (hQ : ∀ γ' a' w', Ext γ0 w0 γ' w' → R P γ' a' w' sF → Q .normal a' w') :
    ∀ (fuel : Nat) (listed : Array Bool) (γ : Gh) (a : Act) (w : World) (s : St), Clo ops listed → unl listed = fuel → R P γ a w s → GlobOK E γ → Ext γ0 w0 γ w →
      (((∃ i, i < h ∧ listed.getD i false = false) ∧ HI E cf l h s0 (fun j => listed.getD j false) s) ∨ ∃ k, h ≤ k ∧ (∀ i, i < ops.size → (listed.getD i false = true ↔ i < k)) ∧ runOps E cf false l (l.drop k) s = some sF) →
      wpAny P .any ops Q fuel listed a w := by
  have hall := hs_HI hD hz0 hrun
  have hend : ∀ (listed : Array Bool) (γ : Gh) (a : Act) (w : World) (s : St), Clo ops listed → R P γ a w s → Ext γ0 w0 γ w →
      (((∃ i, i < h ∧ listed.getD i false = false) ∧ HI E cf l h s0 (fun j => listed.getD j false) s) ∨ ∃ k, h ≤ k ∧ (∀ i, i < ops.size → (listed.getD i false = true ↔ i < k)) ∧ runOps E cf false l (l.drop k) s = some sF) →
      Region.ready .any ops listed = [] → Q .normal a w := by
    intro listed γ a w s hclo hR hE hor hnil
    rcases hor with ⟨hex, _⟩ | ⟨k, hk, hlist, hr⟩
    · obtain ⟨i, h1, h2, h3⟩ := first_un (p := fun j => listed.getD j false) hex
      have := first_ready hD.back hclo (i := i) (by have := hD.hle; have := hD.len; omega) h2 h3
      rw [hnil] at this; simp at this
    · have hks : ops.size ≤ k := by
        refine Decidable.byContradiction fun hn => ?_
        have hkl : k < ops.size := by omega
        have hu : listed.getD k false = false := by
          cases hx : listed.getD k false with
          | false => rfl
          | true => have := (hlist k hkl).1 hx; omega
        have := first_ready hD.back hclo hkl hu (fun j hj => (hlist j (by omega)).2 hj)
        rw [hnil] at this; simp at this
      rw [List.drop_eq_nil_of_le (by rw [hD.len]; exact hks)] at hr
      simp only [runOps, Option.some.injEq] at hr
      subst hr
      exact hQ γ a w hE hR
  intro fuel
  induction fuel with
  | zero =>
    intro listed γ a w s hclo hun hR hG hE hor
    have hz := unl_zero hun
    have hnil : Region.ready .any ops listed = [] := by
      cases hr : Region.ready .any ops listed with
      | nil => rfl
      | cons x xs =>
        have hx : x ∈ Region.ready .any ops listed := by rw [hr]; simp
        obtain ⟨h1, o, ho, _⟩ := mem_ready.1 hx
        have hxs := (Array.getElem?_eq_some_iff.1 ho).1
        have := hz x (by rw [hclo.size]; exact hxs)
        rw [getD_tf (by rw [hclo.size]; exact hxs), this] at h1
        simp at h1
    exact ⟨hnil, hend listed γ a w s hclo hR hE hor hnil⟩
  | succ fuel ih =>
    intro listed γ a w s hclo hun hR hG hE hor
    refine ⟨hend listed γ a w s hclo hR hE hor, fun i hi => ?_⟩
    obtain ⟨hu0, oi, hoi, hedges⟩ := mem_ready.1 hi
    have his := (Array.getElem?_eq_some_iff.1 hoi).1
    have hu : listed.getD i false = false := by rw [← getD_tf (by rw [hclo.size]; exact his)]; exact hu0
    have hbits := hclo.bits hD.back i oi hoi hedges
    have hun' : unl (listed.setIfInBounds i true) = fuel := by have := unl_set (by rw [hclo.size]; exact his) hu; omega
    have hclo' := hclo.set hi
    obtain ⟨so, hso, _⟩ := (all_get hl).2 i oi hoi
    have hset := set_p (listed := listed) (i := i) (by rw [hclo.size]; exact his)
    have hlb : ∀ k, k < ops.size → listed.getD k false = true → ∀ j, ((allBefore ops.toList).getD k 0).testBit j = true → listed.getD j false = true := fun k hk hlk j hj =>
      (hclo.bits hD.back k ops[k] (by simp [hk]) (fun e he hb => hclo.clo k _ (by simp [hk]) hlk e he hb) j hj).1
    rcases hor with ⟨⟨i0, hi0, hu1⟩, hI⟩ | ⟨k, hk, hlist, hr⟩
    · have hih : i < h := by
        refine Decidable.byContradiction fun hn => ?_
        have := (hbits i0 (tail_bits his (by rw [hT]; omega) i0 (by omega))).1
        rw [hu1] at this; simp at this
      obtain ⟨s2, g1, g2, _⟩ := HI.step hI (hall i (by omega)).1 hD hrun hih hso hu hbits (fun k hk hp hb => by
        have := hlb k (by have := hD.hle; have := hD.len; omega) hp i hb
        rw [hu] at this; simp at this) (fun k o hk hok hlk _ => (hall h (Nat.le_refl _)).2 k o hk hok hlk)
      refine opRun_ok hP hC hR hG hl hso g1 (fun γ' a' w' he hR' => ih _ γ' a' w' s2 hclo' hun' hR' (hG.mono he.F) (hE.trans he) ?_)
      rw [← hset] at g2
      by_cases hex : ∃ j, j < h ∧ (listed.setIfInBounds i true).getD j false = false
      · exact .inl ⟨hex, g2⟩
      · right
        have hallh : ∀ j, j < h → (listed.setIfInBounds i true).getD j false = true := fun j hj => by
          cases hx : (listed.setIfInBounds i true).getD j false with
          | true => rfl
          | false => exact absurd ⟨j, hj, hx⟩ hex
        have hsH : s2 = hs E cf l s0 h := g2.full (hall h (Nat.le_refl _)).1 hallh
        refine ⟨h, Nat.le_refl _, fun j hj => ⟨fun hlj => ?_, fun hjh => hallh j hjh⟩, by rw [hsH]; exact htail⟩
        refine Decidable.byContradiction fun hn => ?_
        have hji : i ≠ j := by omega
        rw [getD_set_ne false hji] at hlj
        have := hlb j hj hlj i (tail_bits hj (by rw [hT]; omega) i (by omega))
        rw [hu] at this; simp at this
    · have hik : i = k := by
        have h1 : ¬ i < k := fun hlt => by have := (hlist i his).2 hlt; rw [hu] at this; simp at this
        refine Decidable.byContradiction fun hn => ?_
        have hkl : k < i := by omega
        have := (hbits k (tail_bits his (by rw [hT]; omega) k hkl)).1
        have := (hlist k (by omega)).1 this
        omega
      subst hik
      rw [drop_cons hso] at hr
      simp only [runOps] at hr
      split at hr <;> try (simp at hr; done)
      rename_i s2 hs2
      refine opRun_ok hP hC hR hG hl hso hs2 (fun γ' a' w' he hR' => ih _ γ' a' w' s2 hclo' hun' hR' (hG.mono he.F) (hE.trans he) (.inr ⟨i + 1, by omega, fun j hj => ?_, hr⟩))
      have hb : (listed.setIfInBounds i true).getD j false = (listed.getD j false || decide (j = i)) := congrFun hset j
      rw [hb]
      have := hlist j hj
      by_cases hji : j = i
      · subst hji; simp
      · simp only [hji, decide_false, Bool.or_false]
        rw [this]; omega

theorem any_ok2 (hP : PureOK P E) (hC : CfOK P E cf) (hl : allSome (ops.toList.map (cOper P ops)) = some l) (hD : DrawOK ops l h) {d : Nat} {z : List SV} (hN : NewOK l h d z) (hT : tailFrom (allBefore ops.toList) = h + 1) (hz0 : s0.lz = none)
    (hrun : ∀ j o, j < h → l[j]? = some o → opRun E cf true l o (hs E cf l s0 j) = some (hs E cf l s0 (j + 1))) (htail : runOps E cf false l (l.drop h) (hs E cf l s0 h) = some sF)
    (hQ : ∀ γ' a' w', Ext γ0 w0 γ' w' → R P γ' a' w' sF → Q .normal a' w') :
    ∀ (fuel : Nat) (listed : Array Bool) (γ : Gh) (a : Act) (w : World) (s : St), Clo ops listed → unl listed = fuel → R P γ a w s → GlobOK E γ → Ext γ0 w0 γ w →
      ((∃ t, (∃ i, i < h + 1 ∧ listed.getD i false = false) ∧ HI E cf l h s0 (fun j => listed.getD j false) t ∧ s = if listed.getD h false = true then addN s0.bx.length d z t else t) ∨ ∃ k, h + 1 ≤ k ∧ (∀ i, i < ops.size → (listed.getD i false = true ↔ i < k)) ∧ runOps E cf false l (l.drop k) s = some sF) →
      wpAny P .any ops Q fuel listed a w := by
  have hall := hs_HI hD hz0 hrun
  have hlt : h < ops.size := by rw [← hD.len]; exact (List.getElem?_eq_some_iff.1 hN.op).1
  have htail' : runOps E cf false l (l.drop (h + 1)) (addN s0.bx.length d z (hs E cf l s0 h)) = some sF := by
    rw [drop_cons hN.op] at htail
    simp only [runOps, opRun_new (E := E) (cf := cf) (l := l) (d := d) (z := z) (show (hs E cf l s0 h).bx.length = s0.bx.length by rw [(hall h (Nat.le_refl _)).1.bx])] at htail
    exact htail
  have hend : ∀ (listed : Array Bool) (γ : Gh) (a : Act) (w : World) (s : St), Clo ops listed → R P γ a w s → Ext γ0 w0 γ w →
      ((∃ t, (∃ i, i < h + 1 ∧ listed.getD i false = false) ∧ HI E cf l h s0 (fun j => listed.getD j false) t ∧ s = if listed.getD h false = true then addN s0.bx.length d z t else t) ∨ ∃ k, h + 1 ≤ k ∧ (∀ i, i < ops.size → (listed.getD i false = true ↔ i < k)) ∧ runOps E cf false l (l.drop k) s = some sF) →
      Region.ready .any ops listed = [] → Q .normal a w := by
    intro listed γ a w s hclo hR hE hor hnil
    rcases hor with ⟨_, hex, _⟩ | ⟨k, hk, hlist, hr⟩
    · obtain ⟨i, h1, h2, h3⟩ := first_un (p := fun j => listed.getD j false) hex
      have := first_ready hD.back hclo (i := i) (by omega) h2 h3
      rw [hnil] at this; simp at this
    · have hks : ops.size ≤ k := by
        refine Decidable.byContradiction fun hn => ?_
        have hkl : k < ops.size := by omega
        have hu : listed.getD k false = false := by
          cases hx : listed.getD k false with
          | false => rfl
          | true => have := (hlist k hkl).1 hx; omega
        have := first_ready hD.back hclo hkl hu (fun j hj => (hlist j (by omega)).2 hj)
        rw [hnil] at this; simp at this
      rw [List.drop_eq_nil_of_le (by rw [hD.len]; exact hks)] at hr
      simp only [runOps, Option.some.injEq] at hr
      subst hr
      exact hQ γ a w hE hR
  intro fuel
  induction fuel with
  | zero =>
    intro listed γ a w s hclo hun hR hG hE hor
    have hz := unl_zero hun
    have hnil : Region.ready .any ops listed = [] := by
      cases hr : Region.ready .any ops listed with
      | nil => rfl
      | cons x xs =>
        have hx : x ∈ Region.ready .any ops listed := by rw [hr]; simp
        obtain ⟨h1, o, ho, _⟩ := mem_ready.1 hx
        have hxs := (Array.getElem?_eq_some_iff.1 ho).1
        have := hz x (by rw [hclo.size]; exact hxs)
        rw [getD_tf (by rw [hclo.size]; exact hxs), this] at h1
        simp at h1
    exact ⟨hnil, hend listed γ a w s hclo hR hE hor hnil⟩
  | succ fuel ih =>
    intro listed γ a w s hclo hun hR hG hE hor
    refine ⟨hend listed γ a w s hclo hR hE hor, fun i hi => ?_⟩
    obtain ⟨hu0, oi, hoi, hedges⟩ := mem_ready.1 hi
    have his := (Array.getElem?_eq_some_iff.1 hoi).1
    have hu : listed.getD i false = false := by rw [← getD_tf (by rw [hclo.size]; exact his)]; exact hu0
    have hbits := hclo.bits hD.back i oi hoi hedges
    have hun' : unl (listed.setIfInBounds i true) = fuel := by have := unl_set (by rw [hclo.size]; exact his) hu; omega
    have hclo' := hclo.set hi
    obtain ⟨so, hso, _⟩ := (all_get hl).2 i oi hoi
    have hset := set_p (listed := listed) (i := i) (by rw [hclo.size]; exact his)
    have hlb : ∀ k, k < ops.size → listed.getD k false = true → ∀ j, ((allBefore ops.toList).getD k 0).testBit j = true → listed.getD j false = true := fun k hk hlk j hj =>
      (hclo.bits hD.back k ops[k] (by simp [hk]) (fun e he hb => hclo.clo k _ (by simp [hk]) hlk e he hb) j hj).1
    have hdone : ∀ t2 s2, HI E cf l h s0 (fun j => (listed.setIfInBounds i true).getD j false) t2 → i < h + 1 → (s2 = if (listed.setIfInBounds i true).getD h false = true then addN s0.bx.length d z t2 else t2) →
        (∃ t, (∃ i', i' < h + 1 ∧ (listed.setIfInBounds i true).getD i' false = false) ∧ HI E cf l h s0 (fun j => (listed.setIfInBounds i true).getD j false) t ∧ s2 = if (listed.setIfInBounds i true).getD h false = true then addN s0.bx.length d z t else t) ∨ ∃ k, h + 1 ≤ k ∧ (∀ i', i' < ops.size → ((listed.setIfInBounds i true).getD i' false = true ↔ i' < k)) ∧ runOps E cf false l (l.drop k) s2 = some sF := by
      intro t2 s2 hI2 hih hs2
      by_cases hex : ∃ j, j < h + 1 ∧ (listed.setIfInBounds i true).getD j false = false
      · exact .inl ⟨t2, hex, hI2, hs2⟩
      · right
        have hallh : ∀ j, j < h + 1 → (listed.setIfInBounds i true).getD j false = true := fun j hj => by
          cases hx : (listed.setIfInBounds i true).getD j false with
          | true => rfl
          | false => exact absurd ⟨j, hj, hx⟩ hex
        have hsH : t2 = hs E cf l s0 h := hI2.full (hall h (Nat.le_refl _)).1 (fun j hj => hallh j (by omega))
        rw [hallh h (by omega), if_pos rfl, hsH] at hs2
        refine ⟨h + 1, Nat.le_refl _, fun j hj => ⟨fun hlj => ?_, fun hjh => hallh j hjh⟩, by rw [hs2]; exact htail'⟩
        refine Decidable.byContradiction fun hn => ?_
        have hji : i ≠ j := by omega
        rw [getD_set_ne false hji] at hlj
        have := hlb j hj hlj i (tail_bits hj (by rw [hT]; omega) i (by omega))
        rw [hu] at this; simp at this
    rcases hor with ⟨t, ⟨i0, hi0, hu1⟩, hI, hst⟩ | ⟨k, hk, hlist, hr⟩
    · have hih : i < h + 1 := by
        refine Decidable.byContradiction fun hn => ?_
        have := (hbits i0 (tail_bits his (by rw [hT]; omega) i0 (by omega))).1
        rw [hu1] at this; simp at this
      have hlzt : t.lz = none := hI.lzN (fun j oj hj hoj hlj => by rw [hN.lazy j oj hj hoj] at hlj; simp at hlj)
      by_cases hieq : i = h
      · subst hieq
        rw [hN.op] at hso
        obtain rfl := Option.some.inj hso
        rw [hu, if_neg (by simp)] at hst
        subst hst
        have hself : (listed.setIfInBounds i true).getD i false = true := by simp [Array.getD_eq_getD_getElem?, hclo.size, his]
        refine opRun_ok hP hC hR hG hl hN.op (opRun_new (n := s0.bx.length) (by rw [hI.bx])) (fun γ' a' w' he hR' => ih _ γ' a' w' _ hclo' hun' hR' (hG.mono he.F) (hE.trans he) (hdone s _ (hI.congr (fun j hj => ?_)) hih ?_))
        · rw [getD_set_ne false (by omega)]
        · rw [if_pos hself]
      · have hih' : i < h := by omega
        obtain ⟨s2, g1, g2, _⟩ := HI.step hI (hall i (by omega)).1 hD hrun hih' hso hu hbits (fun k hk hp hb => by
          have := hlb k (by omega) hp i hb
          rw [hu] at this; simp at this) (fun k o hk hok hlk _ => (hall h (Nat.le_refl _)).2 k o hk hok hlk)
        rw [← hset] at g2
        have hgh : (listed.setIfInBounds i true).getD h false = listed.getD h false := getD_set_ne false hieq
        by_cases hnd : listed.getD h false = true
        · rw [if_pos hnd] at hst
          subst hst
          refine opRun_ok hP hC hR hG hl hso (opRun_addN hD hN hih' hso hlzt g1) (fun γ' a' w' he hR' => ih _ γ' a' w' _ hclo' hun' hR' (hG.mono he.F) (hE.trans he) (hdone s2 _ g2 hih ?_))
          rw [hgh, if_pos hnd]
        · rw [if_neg hnd] at hst
          subst hst
          refine opRun_ok hP hC hR hG hl hso g1 (fun γ' a' w' he hR' => ih _ γ' a' w' _ hclo' hun' hR' (hG.mono he.F) (hE.trans he) (hdone s2 _ g2 hih ?_))
          rw [hgh, if_neg hnd]
    · have hik : i = k := by
        have h1 : ¬ i < k := fun hlt => by have := (hlist i his).2 hlt; rw [hu] at this; simp at this
        refine Decidable.byContradiction fun hn => ?_
        have hkl : k < i := by omega
        have := (hbits k (tail_bits his (by rw [hT]; omega) k hkl)).1
        have := (hlist k (by omega)).1 this
        omega
      subst hik
      rw [drop_cons hso] at hr
      simp only [runOps] at hr
      split at hr <;> try (simp at hr; done)
      rename_i s2 hs2
      refine opRun_ok hP hC hR hG hl hso hs2 (fun γ' a' w' he hR' => ih _ γ' a' w' s2 hclo' hun' hR' (hG.mono he.F) (hE.trans he) (.inr ⟨i + 1, by omega, fun j hj => ?_, hr⟩))
      have hb : (listed.setIfInBounds i true).getD j false = (listed.getD j false || decide (j = i)) := congrFun hset j
      rw [hb]
      have := hlist j hj
      by_cases hji : j = i
      · subst hji; simp
      · simp only [hji, decide_false, Bool.or_false]
        rw [this]; omega

theorem any_ok3 (hP : PureOK P E) (hC : CfOK P E cf) (hl : allSome (ops.toList.map (cOper P ops)) = some l) (hD : DrawOK ops l h) {σ : SOp} (hop : l[h]? = some σ) (hlazy : ∀ i o, i < h → l[i]? = some o → lazyOp o.op = false) (G : St → St)
    (hG1 : ∀ (p : Nat → Bool) (t : St), HI E cf l h s0 p t → (∀ j, j < h → ((allBefore ops.toList).getD h 0).testBit j = true → p j = true) → opRun E cf false l σ t = some (G t))
    (hG2 : ∀ (i : Nat) (o : SOp) (t t2 : St), i < h → l[i]? = some o → ((allBefore ops.toList).getD h 0).testBit i = false → t.lz = none → opRun E cf true l o t = some t2 → opRun E cf true l o (G t) = some (G t2)) (hT : tailFrom (allBefore ops.toList) = h + 1) (hz0 : s0.lz = none)
    (hrun : ∀ j o, j < h → l[j]? = some o → opRun E cf true l o (hs E cf l s0 j) = some (hs E cf l s0 (j + 1))) (htail : runOps E cf false l (l.drop h) (hs E cf l s0 h) = some sF)
    (hQ : ∀ γ' a' w', Ext γ0 w0 γ' w' → R P γ' a' w' sF → Q .normal a' w') :
    ∀ (fuel : Nat) (listed : Array Bool) (γ : Gh) (a : Act) (w : World) (s : St), Clo ops listed → unl listed = fuel → R P γ a w s → GlobOK E γ → Ext γ0 w0 γ w →
      ((∃ t, (∃ i, i < h + 1 ∧ listed.getD i false = false) ∧ HI E cf l h s0 (fun j => listed.getD j false) t ∧ s = if listed.getD h false = true then G t else t) ∨ ∃ k, h + 1 ≤ k ∧ (∀ i, i < ops.size → (listed.getD i false = true ↔ i < k)) ∧ runOps E cf false l (l.drop k) s = some sF) →
      wpAny P .any ops Q fuel listed a w := by
  have hall := hs_HI hD hz0 hrun
  have hlt : h < ops.size := by rw [← hD.len]; exact (List.getElem?_eq_some_iff.1 hop).1
  have htail' : runOps E cf false l (l.drop (h + 1)) (G (hs E cf l s0 h)) = some sF := by
    rw [drop_cons hop] at htail
    simp only [runOps, hG1 _ _ (hall h (Nat.le_refl _)).1 (fun j hj _ => by simpa using hj)] at htail
    exact htail
  have hend : ∀ (listed : Array Bool) (γ : Gh) (a : Act) (w : World) (s : St), Clo ops listed → R P γ a w s → Ext γ0 w0 γ w →
      ((∃ t, (∃ i, i < h + 1 ∧ listed.getD i false = false) ∧ HI E cf l h s0 (fun j => listed.getD j false) t ∧ s = if listed.getD h false = true then G t else t) ∨ ∃ k, h + 1 ≤ k ∧ (∀ i, i < ops.size → (listed.getD i false = true ↔ i < k)) ∧ runOps E cf false l (l.drop k) s = some sF) →
      Region.ready .any ops listed = [] → Q .normal a w := by
    intro listed γ a w s hclo hR hE hor hnil
    rcases hor with ⟨_, hex, _⟩ | ⟨k, hk, hlist, hr⟩
    · obtain ⟨i, h1, h2, h3⟩ := first_un (p := fun j => listed.getD j false) hex
      have := first_ready hD.back hclo (i := i) (by omega) h2 h3
      rw [hnil] at this; simp at this
    · have hks : ops.size ≤ k := by
        refine Decidable.byContradiction fun hn => ?_
        have hkl : k < ops.size := by omega
        have hu : listed.getD k false = false := by
          cases hx : listed.getD k false with
          | false => rfl
          | true => have := (hlist k hkl).1 hx; omega
        have := first_ready hD.back hclo hkl hu (fun j hj => (hlist j (by omega)).2 hj)
        rw [hnil] at this; simp at this
      rw [List.drop_eq_nil_of_le (by rw [hD.len]; exact hks)] at hr
      simp only [runOps, Option.some.injEq] at hr
      subst hr
      exact hQ γ a w hE hR
  intro fuel
  induction fuel with
  | zero =>
    intro listed γ a w s hclo hun hR hG hE hor
    have hz := unl_zero hun
    have hnil : Region.ready .any ops listed = [] := by
      cases hr : Region.ready .any ops listed with
      | nil => rfl
      | cons x xs =>
        have hx : x ∈ Region.ready .any ops listed := by rw [hr]; simp
        obtain ⟨h1, o, ho, _⟩ := mem_ready.1 hx
        have hxs := (Array.getElem?_eq_some_iff.1 ho).1
        have := hz x (by rw [hclo.size]; exact hxs)
        rw [getD_tf (by rw [hclo.size]; exact hxs), this] at h1
        simp at h1
    exact ⟨hnil, hend listed γ a w s hclo hR hE hor hnil⟩
  | succ fuel ih =>
    intro listed γ a w s hclo hun hR hG hE hor
    refine ⟨hend listed γ a w s hclo hR hE hor, fun i hi => ?_⟩
    obtain ⟨hu0, oi, hoi, hedges⟩ := mem_ready.1 hi
    have his := (Array.getElem?_eq_some_iff.1 hoi).1
    have hu : listed.getD i false = false := by rw [← getD_tf (by rw [hclo.size]; exact his)]; exact hu0
    have hbits := hclo.bits hD.back i oi hoi hedges
    have hun' : unl (listed.setIfInBounds i true) = fuel := by have := unl_set (by rw [hclo.size]; exact his) hu; omega
    have hclo' := hclo.set hi
    obtain ⟨so, hso, _⟩ := (all_get hl).2 i oi hoi
    have hset := set_p (listed := listed) (i := i) (by rw [hclo.size]; exact his)
    have hlb : ∀ k, k < ops.size → listed.getD k false = true → ∀ j, ((allBefore ops.toList).getD k 0).testBit j = true → listed.getD j false = true := fun k hk hlk j hj =>
      (hclo.bits hD.back k ops[k] (by simp [hk]) (fun e he hb => hclo.clo k _ (by simp [hk]) hlk e he hb) j hj).1
    have hdone : ∀ t2 s2, HI E cf l h s0 (fun j => (listed.setIfInBounds i true).getD j false) t2 → i < h + 1 → (s2 = if (listed.setIfInBounds i true).getD h false = true then G t2 else t2) →
        (∃ t, (∃ i', i' < h + 1 ∧ (listed.setIfInBounds i true).getD i' false = false) ∧ HI E cf l h s0 (fun j => (listed.setIfInBounds i true).getD j false) t ∧ s2 = if (listed.setIfInBounds i true).getD h false = true then G t else t) ∨ ∃ k, h + 1 ≤ k ∧ (∀ i', i' < ops.size → ((listed.setIfInBounds i true).getD i' false = true ↔ i' < k)) ∧ runOps E cf false l (l.drop k) s2 = some sF := by
      intro t2 s2 hI2 hih hs2
      by_cases hex : ∃ j, j < h + 1 ∧ (listed.setIfInBounds i true).getD j false = false
      · exact .inl ⟨t2, hex, hI2, hs2⟩
      · right
        have hallh : ∀ j, j < h + 1 → (listed.setIfInBounds i true).getD j false = true := fun j hj => by
          cases hx : (listed.setIfInBounds i true).getD j false with
          | true => rfl
          | false => exact absurd ⟨j, hj, hx⟩ hex
        have hsH : t2 = hs E cf l s0 h := hI2.full (hall h (Nat.le_refl _)).1 (fun j hj => hallh j (by omega))
        rw [hallh h (by omega), if_pos rfl, hsH] at hs2
        refine ⟨h + 1, Nat.le_refl _, fun j hj => ⟨fun hlj => ?_, fun hjh => hallh j hjh⟩, by rw [hs2]; exact htail'⟩
        refine Decidable.byContradiction fun hn => ?_
        have hji : i ≠ j := by omega
        rw [getD_set_ne false hji] at hlj
        have := hlb j hj hlj i (tail_bits hj (by rw [hT]; omega) i (by omega))
        rw [hu] at this; simp at this
    rcases hor with ⟨t, ⟨i0, hi0, hu1⟩, hI, hst⟩ | ⟨k, hk, hlist, hr⟩
    · have hih : i < h + 1 := by
        refine Decidable.byContradiction fun hn => ?_
        have := (hbits i0 (tail_bits his (by rw [hT]; omega) i0 (by omega))).1
        rw [hu1] at this; simp at this
      have hlzt : t.lz = none := hI.lzN (fun j oj hj hoj hlj => by rw [hlazy j oj hj hoj] at hlj; simp at hlj)
      by_cases hieq : i = h
      · subst hieq
        rw [hu, if_neg (by simp)] at hst
        subst hst
        have hself : (listed.setIfInBounds i true).getD i false = true := by simp [Array.getD_eq_getD_getElem?, hclo.size, his]
        refine opRun_ok hP hC hR hG hl hop (hG1 _ s hI (fun j hj hb => (hbits j hb).1)) (fun γ' a' w' he hR' => ih _ γ' a' w' _ hclo' hun' hR' (hG.mono he.F) (hE.trans he) (hdone s _ (hI.congr (fun j hj => ?_)) hih ?_))
        · rw [getD_set_ne false (by omega)]
        · rw [if_pos hself]
      · have hih' : i < h := by omega
        obtain ⟨s2, g1, g2, _⟩ := HI.step hI (hall i (by omega)).1 hD hrun hih' hso hu hbits (fun k hk hp hb => by
          have := hlb k (by omega) hp i hb
          rw [hu] at this; simp at this) (fun k o hk hok hlk _ => (hall h (Nat.le_refl _)).2 k o hk hok hlk)
        rw [← hset] at g2
        have hgh : (listed.setIfInBounds i true).getD h false = listed.getD h false := getD_set_ne false hieq
        by_cases hnd : listed.getD h false = true
        · rw [if_pos hnd] at hst
          subst hst
          refine opRun_ok hP hC hR hG hl hso (hG2 i so t s2 hih' hso (by
            cases hb : ((allBefore ops.toList).getD h 0).testBit i with
            | false => rfl
            | true =>
              have := hlb h hlt hnd i hb
              rw [hu] at this; simp at this) hlzt g1) (fun γ' a' w' he hR' => ih _ γ' a' w' _ hclo' hun' hR' (hG.mono he.F) (hE.trans he) (hdone s2 _ g2 hih ?_))
          rw [hgh, if_pos hnd]
        · rw [if_neg hnd] at hst
          subst hst
          refine opRun_ok hP hC hR hG hl hso g1 (fun γ' a' w' he hR' => ih _ γ' a' w' _ hclo' hun' hR' (hG.mono he.F) (hE.trans he) (hdone s2 _ g2 hih ?_))
          rw [hgh, if_neg hnd]
    · have hik : i = k := by
        have h1 : ¬ i < k := fun hlt => by have := (hlist i his).2 hlt; rw [hu] at this; simp at this
        refine Decidable.byContradiction fun hn => ?_
        have hkl : k < i := by omega
        have := (hbits k (tail_bits his (by rw [hT]; omega) k hkl)).1
        have := (hlist k (by omega)).1 this
        omega
      subst hik
      rw [drop_cons hso] at hr
      simp only [runOps] at hr
      split at hr <;> try (simp at hr; done)
      rename_i s2 hs2
      refine opRun_ok hP hC hR hG hl hso hs2 (fun γ' a' w' he hR' => ih _ γ' a' w' s2 hclo' hun' hR' (hG.mono he.F) (hE.trans he) (.inr ⟨i + 1, by omega, fun j hj => ?_, hr⟩))
      have hb : (listed.setIfInBounds i true).getD j false = (listed.getD j false || decide (j = i)) := congrFun hset j
      rw [hb]
      have := hlist j hj
      by_cases hji : j = i
      · subst hji; simp
      · simp only [hji, decide_false, Bool.or_false]
        rw [this]; omega

theorem any_ok4 (hP : PureOK P E) (hC : CfOK P E cf) (hl : allSome (ops.toList.map (cOper P ops)) = some l) (hD : DrawOK ops l h) {σ σ' : SOp} (hop : l[h]? = some σ) (hop2 : l[h + 1]? = some σ') (hb12 : ((allBefore ops.toList).getD (h + 1) 0).testBit h = true) (hlazy : ∀ i o, i < h → l[i]? = some o → lazyOp o.op = false) (A B : St → St)
    (hA1 : ∀ (p : Nat → Bool) (t : St), HI E cf l h s0 p t → (∀ j, j < h → ((allBefore ops.toList).getD h 0).testBit j = true → p j = true) → opRun E cf false l σ t = some (A t))
    (hB1 : ∀ (p : Nat → Bool) (t : St), HI E cf l h s0 p t → (∀ j, j < h → ((allBefore ops.toList).getD (h + 1) 0).testBit j = true → p j = true) → opRun E cf false l σ' (A t) = some (B t))
    (hA2 : ∀ (i : Nat) (o : SOp) (t t2 : St), i < h → l[i]? = some o → t.lz = none → opRun E cf true l o t = some t2 → opRun E cf true l o (A t) = some (A t2))
    (hB2 : ∀ (i : Nat) (o : SOp) (t t2 : St), i < h → l[i]? = some o → ((allBefore ops.toList).getD (h + 1) 0).testBit i = false → t.lz = none → opRun E cf true l o t = some t2 → opRun E cf true l o (B t) = some (B t2)) (hT : tailFrom (allBefore ops.toList) = h + 2) (hz0 : s0.lz = none)
    (hrun : ∀ j o, j < h → l[j]? = some o → opRun E cf true l o (hs E cf l s0 j) = some (hs E cf l s0 (j + 1))) (htail : runOps E cf false l (l.drop h) (hs E cf l s0 h) = some sF)
    (hQ : ∀ γ' a' w', Ext γ0 w0 γ' w' → R P γ' a' w' sF → Q .normal a' w') :
    ∀ (fuel : Nat) (listed : Array Bool) (γ : Gh) (a : Act) (w : World) (s : St), Clo ops listed → unl listed = fuel → R P γ a w s → GlobOK E γ → Ext γ0 w0 γ w →
      ((∃ t, (∃ i, i < h + 2 ∧ listed.getD i false = false) ∧ HI E cf l h s0 (fun j => listed.getD j false) t ∧ s = ef (listed.getD h false) (listed.getD (h + 1) false) A B t) ∨ ∃ k, h + 2 ≤ k ∧ (∀ i, i < ops.size → (listed.getD i false = true ↔ i < k)) ∧ runOps E cf false l (l.drop k) s = some sF) →
      wpAny P .any ops Q fuel listed a w := by
  have hall := hs_HI hD hz0 hrun
  have hlt : h < ops.size := by rw [← hD.len]; exact (List.getElem?_eq_some_iff.1 hop).1
  have hlt2 : h + 1 < ops.size := by rw [← hD.len]; exact (List.getElem?_eq_some_iff.1 hop2).1
  have htail' : runOps E cf false l (l.drop (h + 2)) (B (hs E cf l s0 h)) = some sF := by
    rw [drop_cons hop, drop_cons hop2] at htail
    simp only [runOps, hA1 _ _ (hall h (Nat.le_refl _)).1 (fun j hj _ => by simpa using hj), hB1 _ _ (hall h (Nat.le_refl _)).1 (fun j hj _ => by simpa using hj)] at htail
    exact htail
  have hend : ∀ (listed : Array Bool) (γ : Gh) (a : Act) (w : World) (s : St), Clo ops listed → R P γ a w s → Ext γ0 w0 γ w →
      ((∃ t, (∃ i, i < h + 2 ∧ listed.getD i false = false) ∧ HI E cf l h s0 (fun j => listed.getD j false) t ∧ s = ef (listed.getD h false) (listed.getD (h + 1) false) A B t) ∨ ∃ k, h + 2 ≤ k ∧ (∀ i, i < ops.size → (listed.getD i false = true ↔ i < k)) ∧ runOps E cf false l (l.drop k) s = some sF) →
      Region.ready .any ops listed = [] → Q .normal a w := by
    intro listed γ a w s hclo hR hE hor hnil
    rcases hor with ⟨_, hex, _⟩ | ⟨k, hk, hlist, hr⟩
    · obtain ⟨i, h1, h2, h3⟩ := first_un (p := fun j => listed.getD j false) hex
      have := first_ready hD.back hclo (i := i) (by omega) h2 h3
      rw [hnil] at this; simp at this
    · have hks : ops.size ≤ k := by
        refine Decidable.byContradiction fun hn => ?_
        have hkl : k < ops.size := by omega
        have hu : listed.getD k false = false := by
          cases hx : listed.getD k false with
          | false => rfl
          | true => have := (hlist k hkl).1 hx; omega
        have := first_ready hD.back hclo hkl hu (fun j hj => (hlist j (by omega)).2 hj)
        rw [hnil] at this; simp at this
      rw [List.drop_eq_nil_of_le (by rw [hD.len]; exact hks)] at hr
      simp only [runOps, Option.some.injEq] at hr
      subst hr
      exact hQ γ a w hE hR
  intro fuel
  induction fuel with
  | zero =>
    intro listed γ a w s hclo hun hR hG hE hor
    have hz := unl_zero hun
    have hnil : Region.ready .any ops listed = [] := by
      cases hr : Region.ready .any ops listed with
      | nil => rfl
      | cons x xs =>
        have hx : x ∈ Region.ready .any ops listed := by rw [hr]; simp
        obtain ⟨h1, o, ho, _⟩ := mem_ready.1 hx
        have hxs := (Array.getElem?_eq_some_iff.1 ho).1
        have := hz x (by rw [hclo.size]; exact hxs)
        rw [getD_tf (by rw [hclo.size]; exact hxs), this] at h1
        simp at h1
    exact ⟨hnil, hend listed γ a w s hclo hR hE hor hnil⟩
  | succ fuel ih =>
    intro listed γ a w s hclo hun hR hG hE hor
    refine ⟨hend listed γ a w s hclo hR hE hor, fun i hi => ?_⟩
    obtain ⟨hu0, oi, hoi, hedges⟩ := mem_ready.1 hi
    have his := (Array.getElem?_eq_some_iff.1 hoi).1
    have hu : listed.getD i false = false := by rw [← getD_tf (by rw [hclo.size]; exact his)]; exact hu0
    have hbits := hclo.bits hD.back i oi hoi hedges
    have hun' : unl (listed.setIfInBounds i true) = fuel := by have := unl_set (by rw [hclo.size]; exact his) hu; omega
    have hclo' := hclo.set hi
    obtain ⟨so, hso, _⟩ := (all_get hl).2 i oi hoi
    have hset := set_p (listed := listed) (i := i) (by rw [hclo.size]; exact his)
    have hlb : ∀ k, k < ops.size → listed.getD k false = true → ∀ j, ((allBefore ops.toList).getD k 0).testBit j = true → listed.getD j false = true := fun k hk hlk j hj =>
      (hclo.bits hD.back k ops[k] (by simp [hk]) (fun e he hb => hclo.clo k _ (by simp [hk]) hlk e he hb) j hj).1
    have hdone : ∀ t2 s2, HI E cf l h s0 (fun j => (listed.setIfInBounds i true).getD j false) t2 → i < h + 2 → (s2 = ef ((listed.setIfInBounds i true).getD h false) ((listed.setIfInBounds i true).getD (h + 1) false) A B t2) →
        (∃ t, (∃ i', i' < h + 2 ∧ (listed.setIfInBounds i true).getD i' false = false) ∧ HI E cf l h s0 (fun j => (listed.setIfInBounds i true).getD j false) t ∧ s2 = ef ((listed.setIfInBounds i true).getD h false) ((listed.setIfInBounds i true).getD (h + 1) false) A B t) ∨ ∃ k, h + 2 ≤ k ∧ (∀ i', i' < ops.size → ((listed.setIfInBounds i true).getD i' false = true ↔ i' < k)) ∧ runOps E cf false l (l.drop k) s2 = some sF := by
      intro t2 s2 hI2 hih hs2
      by_cases hex : ∃ j, j < h + 2 ∧ (listed.setIfInBounds i true).getD j false = false
      · exact .inl ⟨t2, hex, hI2, hs2⟩
      · right
        have hallh : ∀ j, j < h + 2 → (listed.setIfInBounds i true).getD j false = true := fun j hj => by
          cases hx : (listed.setIfInBounds i true).getD j false with
          | true => rfl
          | false => exact absurd ⟨j, hj, hx⟩ hex
        have hsH : t2 = hs E cf l s0 h := hI2.full (hall h (Nat.le_refl _)).1 (fun j hj => hallh j (by omega))
        rw [hallh h (by omega), hallh (h + 1) (by omega), hsH] at hs2
        simp only [ef, if_true] at hs2
        refine ⟨h + 2, Nat.le_refl _, fun j hj => ⟨fun hlj => ?_, fun hjh => hallh j hjh⟩, by rw [hs2]; exact htail'⟩
        refine Decidable.byContradiction fun hn => ?_
        have hji : i ≠ j := by omega
        rw [getD_set_ne false hji] at hlj
        have := hlb j hj hlj i (tail_bits hj (by rw [hT]; omega) i (by omega))
        rw [hu] at this; simp at this
    rcases hor with ⟨t, ⟨i0, hi0, hu1⟩, hI, hst⟩ | ⟨k, hk, hlist, hr⟩
    · have hih : i < h + 2 := by
        refine Decidable.byContradiction fun hn => ?_
        have := (hbits i0 (tail_bits his (by rw [hT]; omega) i0 (by omega))).1
        rw [hu1] at this; simp at this
      have hlzt : t.lz = none := hI.lzN (fun j oj hj hoj hlj => by rw [hlazy j oj hj hoj] at hlj; simp at hlj)
      by_cases hieq : i = h
      · subst hieq
        have hu2 : listed.getD (i + 1) false = false := by
          cases hx : listed.getD (i + 1) false with
          | false => rfl
          | true =>
            have := hlb (i + 1) hlt2 hx i hb12
            rw [hu] at this; simp at this
        rw [hu, hu2] at hst
        simp only [ef, Bool.false_eq_true, if_false] at hst
        subst hst
        have hself : (listed.setIfInBounds i true).getD i false = true := by simp [Array.getD_eq_getD_getElem?, hclo.size, his]
        have hself2 : (listed.setIfInBounds i true).getD (i + 1) false = false := by rw [getD_set_ne false (by omega)]; exact hu2
        refine opRun_ok hP hC hR hG hl hop (hA1 _ s hI (fun j hj hb => (hbits j hb).1)) (fun γ' a' w' he hR' => ih _ γ' a' w' _ hclo' hun' hR' (hG.mono he.F) (hE.trans he) (hdone s _ (hI.congr (fun j hj => ?_)) hih ?_))
        · rw [getD_set_ne false (by omega)]
        · rw [hself, hself2]; simp [ef]
      · by_cases hieq2 : i = h + 1
        · subst hieq2
          have hu1 : listed.getD h false = true := (hbits h hb12).1
          rw [hu, hu1] at hst
          simp only [ef, Bool.false_eq_true, if_false, if_true] at hst
          subst hst
          have hself : (listed.setIfInBounds (h + 1) true).getD (h + 1) false = true := by simp [Array.getD_eq_getD_getElem?, hclo.size, his]
          refine opRun_ok hP hC hR hG hl hop2 (hB1 _ t hI (fun j hj hb => (hbits j hb).1)) (fun γ' a' w' he hR' => ih _ γ' a' w' _ hclo' hun' hR' (hG.mono he.F) (hE.trans he) (hdone t _ (hI.congr (fun j hj => ?_)) hih ?_))
          · rw [getD_set_ne false (by omega)]
          · rw [hself]; simp [ef]
        · have hih' : i < h := by omega
          obtain ⟨s2, g1, g2, _⟩ := HI.step hI (hall i (by omega)).1 hD hrun hih' hso hu hbits (fun k hk hp hb => by
            have := hlb k (by omega) hp i hb
            rw [hu] at this; simp at this) (fun k o hk hok hlk _ => (hall h (Nat.le_refl _)).2 k o hk hok hlk)
          rw [← hset] at g2
          have hgh : (listed.setIfInBounds i true).getD h false = listed.getD h false := getD_set_ne false hieq
          have hgh2 : (listed.setIfInBounds i true).getD (h + 1) false = listed.getD (h + 1) false := getD_set_ne false hieq2
          cases hn2 : listed.getD (h + 1) false with
          | true =>
            rw [hn2] at hst
            simp only [ef, if_true] at hst
            subst hst
            refine opRun_ok hP hC hR hG hl hso (hB2 i so t s2 hih' hso (by
              cases hb : ((allBefore ops.toList).getD (h + 1) 0).testBit i with
              | false => rfl
              | true =>
                have := hlb (h + 1) hlt2 hn2 i hb
                rw [hu] at this; simp at this) hlzt g1) (fun γ' a' w' he hR' => ih _ γ' a' w' _ hclo' hun' hR' (hG.mono he.F) (hE.trans he) (hdone s2 _ g2 hih ?_))
            rw [hgh2, hn2]; simp [ef]
          | false =>
            cases hn1 : listed.getD h false with
            | true =>
              rw [hn2, hn1] at hst
              simp only [ef, if_true, Bool.false_eq_true, if_false] at hst
              subst hst
              refine opRun_ok hP hC hR hG hl hso (hA2 i so t s2 hih' hso hlzt g1) (fun γ' a' w' he hR' => ih _ γ' a' w' _ hclo' hun' hR' (hG.mono he.F) (hE.trans he) (hdone s2 _ g2 hih ?_))
              rw [hgh, hgh2, hn2, hn1]; simp [ef]
            | false =>
              rw [hn2, hn1] at hst
              simp only [ef, Bool.false_eq_true, if_false] at hst
              subst hst
              refine opRun_ok hP hC hR hG hl hso g1 (fun γ' a' w' he hR' => ih _ γ' a' w' _ hclo' hun' hR' (hG.mono he.F) (hE.trans he) (hdone s2 _ g2 hih ?_))
              rw [hgh, hgh2, hn2, hn1]; simp [ef]
    · have hik : i = k := by
        have h1 : ¬ i < k := fun hlt => by have := (hlist i his).2 hlt; rw [hu] at this; simp at this
        refine Decidable.byContradiction fun hn => ?_
        have hkl : k < i := by omega
        have := (hbits k (tail_bits his (by rw [hT]; omega) k hkl)).1
        have := (hlist k (by omega)).1 this
        omega
      subst hik
      rw [drop_cons hso] at hr
      simp only [runOps] at hr
      split at hr <;> try (simp at hr; done)
      rename_i s2 hs2
      refine opRun_ok hP hC hR hG hl hso hs2 (fun γ' a' w' he hR' => ih _ γ' a' w' s2 hclo' hun' hR' (hG.mono he.F) (hE.trans he) (.inr ⟨i + 1, by omega, fun j hj => ?_, hr⟩))
      have hb : (listed.setIfInBounds i true).getD j false = (listed.getD j false || decide (j = i)) := congrFun hset j
      rw [hb]
      have := hlist j hj
      by_cases hji : j = i
      · subst hji; simp
      · simp only [hji, decide_false, Bool.or_false]
        rw [this]; omega

theorem region_draw (hm : P.follows .mixedOrders = true) (hP : PureOK P E) (hC : CfOK P E cf) (hR : R P γ a w s) (hG : GlobOK E γ) (hz : s.lz = none) {id : Nat} (hl : allSome (ops.toList.map (cOper P ops)) = some l) (hd : drawHead ops l = some h) {sH : St}
    (h1 : runOps E cf true l (l.take h) s = some sH) (h2 : runOps E cf false l (l.drop h) sH = some sF) (hQ : ∀ γ' a' w', Ext γ w γ' w' → R P γ' a' w' sF → Q .normal a' w') : (Code.region id ops true).wp P Q a w := by
  obtain ⟨hD, hkind⟩ := drawOK_of hd
  obtain ⟨k1, k2⟩ := hs_run (E := E) (cf := cf) (l := l) (s0 := s) hD.hle h 0 (by omega) (by show runOps E cf true l ((l.drop 0).take h) s = _; rw [List.drop_zero]; exact h1)
  have hrun : ∀ j o, j < h → l[j]? = some o → opRun E cf true l o (hs E cf l s j) = some (hs E cf l s (j + 1)) := fun j o hj ho => k1 j o (by omega) hj ho
  refine wp_region_any hm ?_
  have hR' : R P γ a { w with drawn := w.drawn + 1 } s := by
    have hf : Fresh γ w γ { w with drawn := w.drawn + 1 } := ⟨rfl, rfl, rfl, Nat.le_refl _, fun _ _ => rfl, fun _ _ _ h => h, fun _ _ _ _ h => h, hR.bx.Fw, rfl, rfl, fun _ _ => rfl, fun b ℓ hl ho => by have := (hR.bx.ow b ℓ ho).1; omega⟩
    exact hf.R hR
  have hE : Ext γ w γ { w with drawn := w.drawn + 1 } := ⟨rfl, rfl, rfl, Nat.le_refl _, fun _ _ _ h => h, ⟨[], by simp, by simp⟩, fun _ _ => rfl, fun _ _ _ _ h => h, fun _ h => h.2.2, fun _ _ h => h⟩
  have hgf : ∀ j, (Array.replicate ops.size false).getD j false = false := fun j => by
    simp only [Array.getD_eq_getD_getElem?, Array.getElem?_replicate]
    split <;> rfl
  have hclo0 : Clo ops (Array.replicate ops.size false) := ⟨by simp, fun i o _ hli => by rw [hgf] at hli; simp at hli⟩
  have hun0 : unl (Array.replicate ops.size false) = ops.size := by
    unfold unl
    rw [Array.toList_replicate, List.countP_replicate]
    rfl
  have hHI0 : HI E cf l h s (fun j => (Array.replicate ops.size false).getD j false) s := by
    have := (hs_HI hD hz hrun 0 (by omega)).1
    have hp : (fun j => (Array.replicate ops.size false).getD j false) = fun j => decide (j < 0) := by funext j; rw [hgf j]; simp
    rw [hp]; exact this
  rcases hkind with hT | ⟨hT, ⟨d, z, hN⟩ | ⟨n, p, u, hN⟩⟩ | ⟨hT, d, z, n, u, hN⟩
  · refine any_ok hP hC hl hD hT hz hrun (by rw [k2]; exact h2) hQ ops.size _ γ a _ s hclo0 hun0 hR' hG hE ?_
    by_cases hh : 0 < h
    · exact .inl ⟨⟨0, hh, hgf 0⟩, hHI0⟩
    · right
      have h0 : h = 0 := by omega
      subst h0
      refine ⟨0, Nat.le_refl _, fun i hi => ⟨fun hx => by rw [hgf] at hx; simp at hx, fun hx => by omega⟩, ?_⟩
      rw [← k2] at h2
      exact h2
  · refine any_ok2 hP hC hl hD hN hT hz hrun (by rw [k2]; exact h2) hQ ops.size _ γ a _ s hclo0 hun0 hR' hG hE (.inl ⟨s, ⟨0, by omega, hgf 0⟩, hHI0, ?_⟩)
    rw [hgf, if_neg (by simp)]
  · have hall := hs_HI hD hz hrun
    have hH := (hall h (Nat.le_refl _)).1
    have hdr := drop_cons hN.op
    obtain ⟨j0, o0, y0, k0, hj0, ho0, hd0, he0⟩ := hN.ext
    obtain ⟨x, hx⟩ := ext_sv he0 hd0 (hrun j0 o0 hj0 ho0)
    have hxH : (hs E cf l s h).rd u = .sv x := by
      rw [hH.rdV j0 o0 u hj0 ho0 hd0 (by simpa using hj0) (fun k ok hk hok hkk => by rw [hN.kill k ok hk hok] at hkk; simp at hkk), hx]
    have hlzH : (hs E cf l s h).lz = none := hH.lzN (fun j oj hj hoj hlj => by rw [hN.lazy j oj hj hoj] at hlj; simp at hlj)
    have h2' := h2
    rw [hdr, ← k2] at h2'
    simp only [runOps] at h2'
    split at h2' <;> try (simp at h2'; done)
    rename_i s2 hs2
    have hst : doStore (hs E cf l s h) n (p.ev E (hs E cf l s h)) (.sv x) (.t u) = some s2 := by
      simp only [opRun, wants, stepOp, pre, stepV, lazyAfter, show ∀ q : St, Opd.ev E q (.t u) = q.rd u from fun _ => rfl, hxH] at hs2
      split at hs2 <;> try (simp at hs2; done)
      rename_i v s' hs'
      split at hs' <;> simp only [Option.some.injEq, Prod.mk.injEq, reduceCtorEq] at hs'
      rename_i s3 hs3
      obtain ⟨_, rfl⟩ := hs'
      simp only [Option.some.injEq] at hs2
      have e3 := (doStore_sv hs3).1
      rw [hs3]
      rw [← hs2]
      rw [e3]
      rfl
    have hB := (doStore_sv hst).2
    refine any_ok3 hP hC hl hD hN.op hN.lazy (fun t => { t with bx := s2.bx }) ?_ ?_ hT hz hrun (by rw [k2]; exact h2) hQ ops.size _ γ a _ s hclo0 hun0 hR' hG hE (.inl ⟨s, ⟨0, by omega, hgf 0⟩, hHI0, ?_⟩)
    · intro pp t hI hb
      have hlzt : t.lz = none := hI.lzN (fun j oj hj hoj hlj => by rw [hN.lazy j oj hj hoj] at hlj; simp at hlj)
      have hrd : ∀ v, v ∈ p.reads ++ [u] → t.rd v = (hs E cf l s h).rd v := by
        intro v hv
        by_cases hex : ∃ j oj, j < h ∧ l[j]? = some oj ∧ oj.dst = some v
        · obtain ⟨j, oj, hj, hoj, hdj⟩ := hex
          rw [hI.rdV j oj v hj hoj hdj (hb j hj (hN.looks v hv j oj hj hoj hdj)) (fun k ok hk hok hkk => by rw [hN.kill k ok hk hok] at hkk; simp at hkk), hH.rdV j oj v hj hoj hdj (by simpa using hj) (fun k ok hk hok hkk => by rw [hN.kill k ok hk hok] at hkk; simp at hkk)]
        · have hno : ∀ j oj, j < h → l[j]? = some oj → oj.dst = some v ∨ oj.op.kills = some v → False := fun j oj h1 h2 h3 => by
            rcases h3 with h3 | h3
            · exact hex ⟨j, oj, h1, h2, h3⟩
            · rw [hN.kill j oj h1 h2] at h3; simp at h3
          rw [hI.rdN v (fun j oj h1 h2 h3 => (hno j oj h1 h2 h3).elim), hH.rdN v (fun j oj h1 h2 h3 => (hno j oj h1 h2 h3).elim)]
      have hp : p.ev E t = p.ev E (hs E cf l s h) := by
        cases p with
        | t v => exact hrd v (by simp [Opd.reads])
        | c v => rfl
        | g v => rfl
      have hu : t.rd u = .sv x := by rw [hrd u (by simp), hxH]
      have := hB t (by rw [hI.bx, hH.bx])
      simp only [opRun, wants, stepOp, pre, stepV, lazyAfter, show ∀ q : St, Opd.ev E q (.t u) = q.rd u from fun _ => rfl, hu, hp, this]
      cases t
      simp only at hlzt
      subst hlzt
      rfl
    · intro i o t t2 hi ho hb _ ho2
      rcases hN.free i o hi ho with hf | hf
      · rw [hb] at hf; simp at hf
      · exact opRun_setB hD hi ho hf (hN.lazy i o hi ho) (hN.kill i o hi ho) ho2
    · rw [hgf, if_neg (by simp)]

  · have hall := hs_HI hD hz hrun
    have hH := (hall h (Nat.le_refl _)).1
    obtain ⟨j0, o0, c0, ps0, hj0, ho0, hd0, he0⟩ := hN.bld
    obtain ⟨x, hx⟩ := build_sv he0 hd0 (hrun j0 o0 hj0 ho0)
    have hxH : (hs E cf l s h).rd u = .sv x := by
      rw [hH.rdV j0 o0 u hj0 ho0 hd0 (by simpa using hj0) (fun k ok hk hok hkk => by rw [hN.kill k ok hk hok] at hkk; simp at hkk), hx]
    have hlzH : (hs E cf l s h).lz = none := hH.lzN (fun j oj hj hoj hlj => by rw [hN.new.lazy j oj hj hoj] at hlj; simp at hlj)
    have hur : ∀ t : St, (addN s.bx.length d z t).rd u = t.rd u := fun t => by
      show ({ t with tm := t.tm.set d (.ptr s.bx.length 0) } : St).rd u = _
      rw [rd_setL, if_neg (fun e => hN.ne e.1)]
    have hdr : ∀ t : St, t.tm.length = s.tm.length → (addN s.bx.length d z t).rd d = (addN s.bx.length d z (hs E cf l s h)).rd d := fun t ht => by
      show ({ t with tm := t.tm.set d (.ptr s.bx.length 0) } : St).rd d = ({ (hs E cf l s h) with tm := (hs E cf l s h).tm.set d (.ptr s.bx.length 0) } : St).rd d
      rw [rd_setL, rd_setL, ht, hH.len]
      by_cases hdl : d < s.tm.length
      · simp [hdl]
      · simp only [hdl, and_false, if_false]
        rw [rd_big (by rw [ht]; omega), rd_big (by rw [hH.len]; omega)]
    have hzA : ∀ t : St, t.lz = none → (addN s.bx.length d z t).lz = none := fun t ht => by simp only [addN, St.put, St.set, ht, clearTmp]
    have h2' := h2
    rw [drop_cons hN.new.op, drop_cons hN.op2, ← k2] at h2'
    simp only [runOps, opRun_new (E := E) (cf := cf) (l := l) (d := d) (z := z) (show (hs E cf l s h).bx.length = s.bx.length by rw [hH.bx])] at h2'
    split at h2' <;> try (simp at h2'; done)
    rename_i s2 hs2
    have hst : doStore (addN s.bx.length d z (hs E cf l s h)) n ((addN s.bx.length d z (hs E cf l s h)).rd d) (.sv x) (.t u) = some s2 := by
      simp only [opRun, wants, stepOp, pre, stepV, lazyAfter, show ∀ (q : St) (v : Nat), Opd.ev E q (.t v) = q.rd v from fun _ _ => rfl, hur, hxH] at hs2
      split at hs2 <;> try (simp at hs2; done)
      rename_i v s' hs'
      split at hs' <;> simp only [Option.some.injEq, Prod.mk.injEq, reduceCtorEq] at hs'
      rename_i s3 hs3
      obtain ⟨_, rfl⟩ := hs'
      simp only [Option.some.injEq] at hs2
      have e3 := (doStore_sv hs3).1
      rw [hs3]
      rw [← hs2]
      rw [e3]
      rfl
    have hB := (doStore_sv hst).2
    refine any_ok4 hP hC hl hD hN.new.op hN.op2 hN.b12 hN.new.lazy (fun t => addN s.bx.length d z t) (fun t => { addN s.bx.length d z t with bx := s2.bx }) ?_ ?_ ?_ ?_ hT hz hrun (by rw [k2]; exact h2) hQ ops.size _ γ a _ s hclo0 hun0 hR' hG hE (.inl ⟨s, ⟨0, by omega, hgf 0⟩, hHI0, ?_⟩)
    · intro pp t hI _
      exact opRun_new (by rw [hI.bx])
    · intro pp t hI hb
      have hlzt : t.lz = none := hI.lzN (fun j oj hj hoj hlj => by rw [hN.new.lazy j oj hj hoj] at hlj; simp at hlj)
      have hu : (addN s.bx.length d z t).rd u = .sv x := by
        rw [hur, hI.rdV j0 o0 u hj0 ho0 hd0 (hb j0 hj0 (hN.looks j0 o0 hj0 ho0 hd0)) (fun k ok hk hok hkk => by rw [hN.kill k ok hk hok] at hkk; simp at hkk), hx]
      have := hB (addN s.bx.length d z t) (by show t.bx ++ _ = (hs E cf l s h).bx ++ _; rw [hI.bx, hH.bx])
      have hzt := hzA t hlzt
      simp only [opRun, wants, stepOp, pre, stepV, lazyAfter, show ∀ (q : St) (v : Nat), Opd.ev E q (.t v) = q.rd v from fun _ _ => rfl, hu, hdr t hI.len, this]
      generalize addN s.bx.length d z t = t' at *
      cases t'
      simp only at hzt
      subst hzt
      rfl
    · intro i o t t2 hi ho hlz ho2
      exact opRun_addN hD hN.new hi ho hlz ho2
    · intro i o t t2 hi ho hb hlz ho2
      have e1 := opRun_addN (n := s.bx.length) hD hN.new hi ho hlz ho2
      rcases hN.free i o hi ho with hf | hf
      · rw [hb] at hf; simp at hf
      · exact opRun_setB hD hi ho hf (hN.new.lazy i o hi ho) (hN.kill i o hi ho) e1
    · rw [hgf, hgf]; simp [ef]

end
end Go.Ev
