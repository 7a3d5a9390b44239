/- Regions that draw their order: every order comes to the text's order. -/
import Derived.Test.YtgeaomghbiamgaaGreatDoorGae
set_option linter.unusedSimpArgs false
set_option linter.unusedVariables false
namespace Go.Ev
variable {P : Program} {E : Env} {γ : Gh} {a : Act} {w : World} {s : St} {cf : CallF} {q : Bool} {s1 : St} {av : AV}

structure DrawOK (ops : Array Oper) (l : List SOp) (h : Nat) : Prop where
  len : l.length = ops.size
  hle : h ≤ l.length
  back : edgesBack ops.toList = true
  head : ∀ i o, i < h → l[i]? = some o → headOp o.op = true
  one : ∀ i j oi oj, i < h → j < h → l[i]? = some oi → l[j]? = some oj → lazyOp oi.op = true → lazyOp oj.op = true → i = j
  dst : ∀ i j oi oj d, i < h → j < h → l[i]? = some oi → l[j]? = some oj → oi.dst = some d → oj.dst = some d → i = j
  looks : ∀ i j oi oj t, i < h → j < h → l[i]? = some oi → l[j]? = some oj → t ∈ oi.looks l → oj.dst = some t → ((allBefore ops.toList).getD i 0).testBit j = true
  kill : ∀ i oi t, i < h → l[i]? = some oi → oi.op.kills = some t → oi.guard = none ∧ oi.dst ≠ some t ∧ ∀ j oj, j < h → l[j]? = some oj → lazyOp oj.op = false ∧ (i = j ∨ t ∉ oj.looks l)

/-- A new variable that is made at any time, ahead of the tail. -/
structure NewOK (l : List SOp) (g : Nat) (d : Nat) (z : List SV) : Prop where
  op : l[g]? = some { dst := some d, op := .new z, guard := none }
  lazy : ∀ i o, i < g → l[i]? = some o → lazyOp o.op = false
  dst : ∀ i o, i < g → l[i]? = some o → o.dst ≠ some d
  kill : ∀ i o, i < g → l[i]? = some o → o.op.kills ≠ some d
  looks : ∀ i o, i < g → l[i]? = some o → d ∉ o.looks l

/-- A store of a part of an answer at any time. -/
structure StoreOK (ops : Array Oper) (l : List SOp) (g : Nat) (n : Option Nat) (p : Opd) (u : Nat) : Prop where
  op : l[g]? = some { dst := none, op := .store n p (.t u), guard := none }
  lazy : ∀ i o, i < g → l[i]? = some o → lazyOp o.op = false
  kill : ∀ i o, i < g → l[i]? = some o → o.op.kills = none
  ext : ∃ (j : Nat) (o : SOp) (y : Opd) (k : Nat), j < g ∧ l[j]? = some o ∧ o.dst = some u ∧ o.op = .ext y k
  looks : ∀ t, t ∈ p.reads ++ [u] → ∀ j oj, j < g → l[j]? = some oj → oj.dst = some t → ((allBefore ops.toList).getD g 0).testBit j = true
  free : ∀ j oj, j < g → l[j]? = some oj → ((allBefore ops.toList).getD g 0).testBit j = true ∨ noBx oj.op = true

/-- A new variable and the store into it, at any time. -/
structure New2OK (ops : Array Oper) (l : List SOp) (g : Nat) (d : Nat) (z : List SV) (n : Option Nat) (u : Nat) : Prop where
  new : NewOK l g d z
  op2 : l[g + 1]? = some { dst := none, op := .store n (.t d) (.t u), guard := none }
  b12 : ((allBefore ops.toList).getD (g + 1) 0).testBit g = true
  kill : ∀ i o, i < g → l[i]? = some o → o.op.kills = none
  bld : ∃ (j : Nat) (o : SOp) (c : List SV) (ps : List (Nat × Nat × Opd)), j < g ∧ l[j]? = some o ∧ o.dst = some u ∧ o.op = .build c ps
  ne : u ≠ d
  looks : ∀ j oj, j < g → l[j]? = some oj → oj.dst = some u → ((allBefore ops.toList).getD (g + 1) 0).testBit j = true
  free : ∀ j oj, j < g → l[j]? = some oj → ((allBefore ops.toList).getD (g + 1) 0).testBit j = true ∨ noBx oj.op = true

theorem drawOK_parts {ops : Array Oper} {l : List SOp} {h : Nat} (h1 : edgesBack ops.toList = true) (h2 : (l.take h).all (fun o => headOp o.op) = true) (h3 : lazyOne (l.take h) = true) (h4 : dstsOK (l.take h) = true) (h5 : looksOK (l.take h) l (allBefore ops.toList) = true) (h8 : killsOK (l.take h) l = true) (hlen : l.length = ops.size) (h7 : h ≤ l.length) : DrawOK ops l h := by
  have hmem : ∀ i o, i < h → l[i]? = some o → (o, i) ∈ (l.take h).zipIdx := fun i o hi ho => List.mem_zipIdx_iff_getElem?.2 (by simp [List.getElem?_take, hi, ho])
  refine ⟨hlen, h7, h1, fun i o hi ho => ?_, fun i j oi oj hi hj hoi hoj hli hlj => ?_, fun i j oi oj d hi hj hoi hoj hdi hdj => ?_, fun i j oi oj t hi hj hoi hoj ht hdj => ?_, fun i oi t hi hoi hk => ?_⟩
  · rw [List.all_eq_true] at h2
    exact h2 o (List.mem_of_getElem? (i := i) (by rw [List.getElem?_take, if_pos hi]; exact ho))
  · unfold lazyOne at h3
    rw [List.all_eq_true] at h3
    have := h3 _ (hmem i oi hi hoi)
    rw [List.all_eq_true] at this
    have := this _ (hmem j oj hj hoj)
    simpa [hli, hlj] using this
  · unfold dstsOK at h4
    rw [List.all_eq_true] at h4
    have := h4 _ (hmem i oi hi hoi)
    rw [List.all_eq_true] at this
    have := this _ (hmem j oj hj hoj)
    simpa [hdi, hdj] using this
  · unfold looksOK at h5
    rw [List.all_eq_true] at h5
    have := h5 _ (hmem i oi hi hoi)
    rw [List.all_eq_true] at this
    have := this t ht
    rw [List.all_eq_true] at this
    have := this _ (hmem j oj hj hoj)
    simpa [hdj] using this
  · unfold killsOK at h8
    rw [List.all_eq_true] at h8
    have := h8 _ (hmem i oi hi hoi)
    simp only [hk, Bool.and_eq_true, List.all_eq_true, beq_iff_eq, bne_iff_ne, ne_eq] at this
    obtain ⟨⟨g1, g2⟩, g3⟩ := this
    refine ⟨by simpa using g1, by simpa using g2, fun j oj hj hoj => ?_⟩
    have := g3 _ (hmem j oj hj hoj)
    simpa using this

theorem drawOK_of {ops : Array Oper} {l : List SOp} {h : Nat} (hd : drawHead ops l = some h) : DrawOK ops l h ∧ (tailFrom (allBefore ops.toList) = h ∨ tailFrom (allBefore ops.toList) = h + 1 ∧ ((∃ d z, NewOK l h d z) ∨ ∃ n p u, StoreOK ops l h n p u) ∨ tailFrom (allBefore ops.toList) = h + 2 ∧ ∃ d z n u, New2OK ops l h d z n u) := by
  unfold drawHead at hd
  simp only at hd
  split at hd
  · simp only [Option.some.injEq] at hd
    rename_i hc
    simp only [Bool.and_eq_true, beq_iff_eq, decide_eq_true_eq] at hc
    obtain ⟨⟨⟨⟨⟨⟨⟨h1, h2⟩, h3⟩, h4⟩, h5⟩, h8⟩, h6⟩, h7⟩ := hc
    rw [hd] at h2 h3 h4 h5 h7 h8
    exact ⟨drawOK_parts h1 h2 h3 h4 h5 h8 (by simpa using h6) h7, .inl hd⟩
  · split at hd
    rotate_left
    · split at hd <;> simp only [Option.some.injEq, reduceCtorEq] at hd
      rename_i hc
      simp only [Bool.and_eq_true, beq_iff_eq, decide_eq_true_eq] at hc
      obtain ⟨⟨⟨⟨h1, h0⟩, h2⟩, h6⟩, h7⟩ := hc
      rw [hd] at h2
      have hmem : ∀ i o, i < h → l[i]? = some o → o ∈ l.take h := fun i o hi ho => List.mem_of_getElem? (i := i) (by rw [List.getElem?_take, if_pos hi]; exact ho)
      have hmz : ∀ i o, i < h → l[i]? = some o → (o, i) ∈ (l.take h).zipIdx := fun i o hi ho => List.mem_zipIdx_iff_getElem?.2 (by simp [List.getElem?_take, hi, ho])
      have hlz : (∀ o ∈ l.take h, lazyOp o.op = false) → lazyOne (l.take h) = true := by
        intro hh
        unfold lazyOne
        rw [List.all_eq_true]
        intro p hp
        have := hh p.1 (List.mem_of_getElem? (List.mem_zipIdx_iff_getElem?.1 hp))
        simp [this]
      unfold new2At at h2
      split at h2 <;> try (simp at h2; done)
      rename_i d z n d' u hg hg2
      simp only [Bool.and_eq_true, beq_iff_eq] at h2
      obtain ⟨⟨⟨⟨⟨⟨⟨⟨⟨h2, h4⟩, h5⟩, h8⟩, hdd⟩, hb⟩, h9⟩, hne⟩, h10⟩, h11⟩ := h2
      subst hdd
      rw [List.all_eq_true] at h2
      have h2' : ∀ o ∈ l.take h, headOp o.op = true ∧ lazyOp o.op = false ∧ o.op.kills = none ∧ o.dst ≠ some d ∧ d ∉ o.looks l := fun o ho => by
        have := h2 o ho
        simp only [Bool.and_eq_true, Bool.not_eq_true', beq_iff_eq, bne_iff_ne, ne_eq] at this
        exact ⟨this.1.1.1.1, this.1.1.1.2, this.1.1.2, this.1.2, by simpa using this.2⟩
      refine ⟨drawOK_parts h1 (List.all_eq_true.2 fun o ho => (h2' o ho).1) (hlz fun o ho => (h2' o ho).2.1) h4 h5 h8 (by simpa using h6) (by omega), .inr (.inr ⟨by omega, d, z, n, u, ⟨⟨hg, fun i o hi ho => (h2' o (hmem i o hi ho)).2.1, fun i o hi ho => (h2' o (hmem i o hi ho)).2.2.2.1, fun i o hi ho => by rw [(h2' o (hmem i o hi ho)).2.2.1]; simp, fun i o hi ho => (h2' o (hmem i o hi ho)).2.2.2.2⟩, hg2, hb, fun i o hi ho => (h2' o (hmem i o hi ho)).2.2.1, ?_, by simpa using hne, ?_, ?_⟩⟩)⟩
      · rw [List.any_eq_true] at h9
        obtain ⟨o, ho, h9⟩ := h9
        rw [Bool.and_eq_true, beq_iff_eq] at h9
        obtain ⟨j, hj, hjo⟩ := List.getElem_of_mem ho
        have hjh : j < h := by simp at hj; omega
        have hgo : l[j]? = some o := by
          rw [List.getElem_take] at hjo
          rw [← hjo]; simp
        obtain ⟨h9, h12⟩ := h9
        split at h12
        · rename_i c ps he; exact ⟨j, o, c, ps, hjh, hgo, h9, he⟩
        · simp at h12
      · intro j oj hj hoj hd2
        rw [List.all_eq_true] at h10
        have := h10 _ (hmz j oj hj hoj)
        simp only [hd2, bne_self_eq_false, Bool.false_or] at this
        exact this
      · intro j oj hj hoj
        rw [List.all_eq_true] at h11
        have := h11 _ (hmz j oj hj hoj)
        simpa using this
    simp only [Option.some.injEq] at hd
    rename_i hc
    simp only [Bool.and_eq_true, beq_iff_eq, decide_eq_true_eq] at hc
    obtain ⟨⟨⟨⟨h1, h0⟩, h2⟩, h6⟩, h7⟩ := hc
    rw [hd] at h2
    have hmem : ∀ i o, i < h → l[i]? = some o → o ∈ l.take h := fun i o hi ho => List.mem_of_getElem? (i := i) (by rw [List.getElem?_take, if_pos hi]; exact ho)
    have hmz : ∀ i o, i < h → l[i]? = some o → (o, i) ∈ (l.take h).zipIdx := fun i o hi ho => List.mem_zipIdx_iff_getElem?.2 (by simp [List.getElem?_take, hi, ho])
    have hlz : (∀ o ∈ l.take h, lazyOp o.op = false) → lazyOne (l.take h) = true := by
      intro hh
      unfold lazyOne
      rw [List.all_eq_true]
      intro p hp
      have := hh p.1 (List.mem_of_getElem? (List.mem_zipIdx_iff_getElem?.1 hp))
      simp [this]
    rw [Bool.or_eq_true] at h2
    rcases h2 with h2 | h2
    rotate_left
    · unfold storeAt at h2
      split at h2 <;> try (simp at h2; done)
      rename_i n p u hg
      simp only [Bool.and_eq_true] at h2
      obtain ⟨⟨⟨⟨⟨⟨h2, h4⟩, h5⟩, h8⟩, h9⟩, h10⟩, h11⟩ := h2
      rw [List.all_eq_true] at h2
      have h2' : ∀ o ∈ l.take h, headOp o.op = true ∧ lazyOp o.op = false ∧ o.op.kills = none := fun o ho => by
        have := h2 o ho
        simp only [Bool.and_eq_true, Bool.not_eq_true', beq_iff_eq] at this
        exact ⟨this.1.1, this.1.2, this.2⟩
      refine ⟨drawOK_parts h1 (List.all_eq_true.2 fun o ho => (h2' o ho).1) (hlz fun o ho => (h2' o ho).2.1) h4 h5 h8 (by simpa using h6) (by omega), .inr (.inl ⟨by omega, .inr ⟨n, p, u, hg, fun i o hi ho => (h2' o (hmem i o hi ho)).2.1, fun i o hi ho => (h2' o (hmem i o hi ho)).2.2, ?_, ?_, ?_⟩⟩)⟩
      · rw [List.any_eq_true] at h9
        obtain ⟨o, ho, h9⟩ := h9
        rw [Bool.and_eq_true, beq_iff_eq] at h9
        obtain ⟨j, hj, hjo⟩ := List.getElem_of_mem ho
        have hjh : j < h := by simp at hj; omega
        have hgo : l[j]? = some o := by
          rw [List.getElem_take] at hjo
          rw [← hjo]; simp
        obtain ⟨h9, h12⟩ := h9
        split at h12
        · rename_i y k he; exact ⟨j, o, y, k, hjh, hgo, h9, he⟩
        · simp at h12
      · intro t ht j oj hj hoj hd2
        rw [List.all_eq_true] at h10
        have := h10 t ht
        rw [List.all_eq_true] at this
        have := this _ (hmz j oj hj hoj)
        simp only [hd2, bne_self_eq_false, Bool.false_or] at this
        exact this
      · intro j oj hj hoj
        rw [List.all_eq_true] at h11
        have := h11 _ (hmz j oj hj hoj)
        simpa using this
    unfold newAt at h2
    split at h2 <;> try (simp at h2; done)
    rename_i d z hg
    simp only [Bool.and_eq_true, List.all_eq_true, bne_iff_ne, ne_eq, Bool.not_eq_true'] at h2
    obtain ⟨⟨⟨h2, h4⟩, h5⟩, h8⟩ := h2
    refine ⟨drawOK_parts h1 (List.all_eq_true.2 fun o ho => (h2 o ho).1.1.1.1) ?_ h4 h5 h8 (by simpa using h6) (by omega), .inr (.inl ⟨by omega, .inl ⟨d, z, hg, fun i o hi ho => (h2 o (hmem i o hi ho)).1.1.1.2, fun i o hi ho => (h2 o (hmem i o hi ho)).1.1.2, fun i o hi ho => (h2 o (hmem i o hi ho)).1.2, fun i o hi ho => ?_⟩⟩)⟩
    · unfold lazyOne
      rw [List.all_eq_true]
      intro p hp
      have := (h2 p.1 (List.mem_of_getElem? (List.mem_zipIdx_iff_getElem?.1 hp))).1.1.1.2
      simp [this]
    · have := (h2 o (hmem i o hi ho)).2
      simpa using this

/-- The head's states in the text's order. -/
def hs (E : Env) (cf : CallF) (l : List SOp) (s0 : St) : Nat → St
  | 0 => s0
  | i + 1 => match l[i]? with
    | some o => (opRun E cf true l o (hs E cf l s0 i)).getD (hs E cf l s0 i)
    | none => hs E cf l s0 i

theorem hs_run {l : List SOp} {s0 sH : St} {h : Nat} (hl : h ≤ l.length) : ∀ (k i : Nat), i + k = h → runOps E cf true l ((l.drop i).take k) (hs E cf l s0 i) = some sH →
    (∀ j o, i ≤ j → j < h → l[j]? = some o → opRun E cf true l o (hs E cf l s0 j) = some (hs E cf l s0 (j + 1))) ∧ hs E cf l s0 h = sH
  | 0, i, hi, hr => by
    simp only [List.take_zero, runOps, Option.some.injEq] at hr
    rw [Nat.add_zero] at hi
    subst hi
    exact ⟨fun j o h1 h2 => by omega, hr⟩
  | k + 1, i, hi, hr => by
    have hil : i < l.length := by omega
    have hg : l[i]? = some l[i] := by simp [hil]
    rw [drop_cons hg, List.take_succ_cons] at hr
    simp only [runOps] at hr
    split at hr <;> try (simp at hr; done)
    rename_i s2 hs2
    have hnext : hs E cf l s0 (i + 1) = s2 := by simp only [hs, hg, hs2, Option.getD_some]
    rw [← hnext] at hr
    obtain ⟨k1, k2⟩ := hs_run hl k (i + 1) (by omega) hr
    refine ⟨fun j o h1 h2 ho => ?_, k2⟩
    by_cases hj : j = i
    · subst hj
      rw [hg] at ho
      obtain rfl := Option.some.inj ho
      rw [hnext]; exact hs2
    · exact k1 j o (by omega) h2 ho

theorem fin_bx (s : St) (d : Option Nat) (v : AV) (r : Option (Option (Nat × Loc))) : (fin s d v r).bx = s.bx ∧ ((fin s d v r).df, (fin s d v r).lk, (fin s d v r).mu) = (s.df, s.lk, s.mu) ∧ (fin s d v r).tm.length = s.tm.length := by
  cases r <;> cases d <;> simp [fin, St.put, St.set]

theorem rd_big {s : St} {t : Nat} (h : s.tm.length ≤ t) : s.rd t = .sv .undef := by
  simp only [St.rd, List.getD_eq_getElem?_getD]
  rw [List.getElem?_eq_none h]; rfl

theorem fin_rd_ne (s : St) (d : Option Nat) (v : AV) (r : Option (Option (Nat × Loc))) {t : Nat} (h : d ≠ some t) : (fin s d v r).rd t = s.rd t := by
  have key : (s.put d v).rd t = s.rd t := by
    cases d with
    | none => rfl
    | some d' =>
      simp only [St.put, St.rd, St.set, List.getD_eq_getElem?_getD, List.getElem?_set]
      rw [if_neg (by intro e; exact h (by rw [e]))]
  cases r with
  | none => exact key
  | some x => exact key

theorem fin_rd_eq (s s' : St) (v : AV) (r : Option (Option (Nat × Loc))) {t : Nat} (hl : s'.tm.length = s.tm.length) : (fin s (some t) v r).rd t = (fin s' (some t) v r).rd t := by
  have key : ∀ x : St, (fin x (some t) v r).rd t = if t < x.tm.length then v else .sv .undef := by
    intro x
    have : (fin x (some t) v r).rd t = (x.put (some t) v).rd t := by cases r <;> rfl
    rw [this]
    by_cases ht : t < x.tm.length
    · rw [St.put, rd_set x t t v ht, if_pos rfl, if_pos ht]
    · rw [if_neg ht, rd_big (by simp [St.put, St.set]; omega)]
  rw [key, key, hl]

theorem fin_lz_none (s : St) (d : Option Nat) (v : AV) (h : s.lz = none) : (fin s d v none).lz = none := by
  cases d <;> simp [fin, St.put, St.set, h, clearTmp]

theorem fin_lz_keep (s : St) (d : Option Nat) (v : AV) (h : ∀ d' ℓ, s.lz = some (d', ℓ) → d ≠ some d' ∧ ∀ t, ℓ = .tmp t → d ≠ some t) : (fin s d v none).lz = s.lz := by
  cases d with
  | none => rfl
  | some x =>
    simp only [fin, St.put, St.set]
    cases hz : s.lz with
    | none => rfl
    | some p =>
      obtain ⟨d', ℓ⟩ := p
      obtain ⟨h1, h2⟩ := h d' ℓ hz
      simp only [clearTmp]
      rw [if_neg (by intro e; exact h1 (by rw [e]))]
      cases ℓ with
      | tmp t => simp only; rw [if_neg (by intro e; exact h2 t rfl (by rw [e]))]
      | _ => rfl

theorem bits_lt {ops : Array Oper} (hback : edgesBack ops.toList = true) : ∀ k, k < ops.size → ∀ j, ((allBefore ops.toList).getD k 0).testBit j = true → j < k := by
  intro k hk j hj
  have hcl : Clo ops (Array.replicate ops.size true) := ⟨by simp, fun i' o' hi' _ e he hb => by
    have hbk := hback
    unfold edgesBack at hbk
    rw [List.all_eq_true] at hbk
    have h4 := hbk (o', i') (List.mem_zipIdx_iff_getElem?.2 (by simpa using hi'))
    simp only [Array.all_eq_true'] at h4
    have h5 : e.on < i' := by simpa [hb] using h4 e he
    have h6 := (Array.getElem?_eq_some_iff.1 hi').1
    have : e.on < ops.size := by omega
    simp [Array.getD_eq_getD_getElem?, this]⟩
  exact (hcl.bits hback k ops[k] (by simp [hk]) (fun e he hb => hcl.clo k _ (by simp [hk]) (by simp [Array.getD_eq_getD_getElem?, hk]) e he hb) j hj).2

/-- A store at any time; what may come behind it looks into no box, or reads one cell. -/
structure StoreXOK (ops : Array Oper) (l : List SOp) (g : Nat) (n : Option Nat) (p : Opd) (u : Nat) (ls : List Opd) : Prop where
  op : l[g]? = some { dst := none, op := .store n p (.t u), guard := none }
  lazy : ∀ i o, i < g → l[i]? = some o → lazyOp o.op = false
  kill : ∀ i o, i < g → l[i]? = some o → o.op.kills = none
  looks : ∀ t, t ∈ p.reads ++ [u] → ∀ j oj, j < g → l[j]? = some oj → oj.dst = some t → ((allBefore ops.toList).getD g 0).testBit j = true
  free : ∀ j oj, j < g → l[j]? = some oj → ((allBefore ops.toList).getD g 0).testBit j = true ∨ noBx oj.op = true ∨ ∃ x, oj.op = .load none x ∧ x ∈ ls

theorem drawX_of {ops : Array Oper} {l l' : List SOp} {h : Nat} (hd : drawHeadX ops l = some (h, l')) : DrawOK ops l h ∧ tailFrom (allBefore ops.toList) = h + 1 ∧ ∃ n p u ls, StoreXOK ops l h n p u ls ∧ l' = l.set h { dst := none, op := .storeX n p (.t u) ls, guard := none } := by
  unfold drawHeadX at hd
  simp only at hd
  split at hd <;> try (simp at hd; done)
  rename_i hc
  simp only [Bool.and_eq_true, beq_iff_eq, decide_eq_true_eq] at hc
  obtain ⟨⟨⟨h1, h0⟩, h6⟩, h7⟩ := hc
  split at hd <;> try (simp at hd; done)
  rename_i n p u hg
  split at hd <;> simp only [Option.some.injEq, Prod.mk.injEq, reduceCtorEq] at hd
  rename_i h2
  obtain ⟨hh, hl'⟩ := hd
  have hT : tailFrom (allBefore ops.toList) = h + 1 := by omega
  rw [hh] at hl' h2 hg
  have hmem : ∀ i o, i < h → l[i]? = some o → o ∈ l.take h := fun i o hi ho => List.mem_of_getElem? (i := i) (by rw [List.getElem?_take, if_pos hi]; exact ho)
  have hmz : ∀ i o, i < h → l[i]? = some o → (o, i) ∈ (l.take h).zipIdx := fun i o hi ho => List.mem_zipIdx_iff_getElem?.2 (by simp [List.getElem?_take, hi, ho])
  unfold storeFree at h2
  simp only [Bool.and_eq_true] at h2
  obtain ⟨⟨⟨⟨⟨h2, h4⟩, h5⟩, h8⟩, h10⟩, h11⟩ := h2
  rw [List.all_eq_true] at h2
  have h2' : ∀ o ∈ l.take h, headOp o.op = true ∧ lazyOp o.op = false ∧ o.op.kills = none := fun o ho => by
    have := h2 o ho
    simp only [Bool.and_eq_true, Bool.not_eq_true', beq_iff_eq] at this
    exact ⟨this.1.1, this.1.2, this.2⟩
  have hlz : lazyOne (l.take h) = true := by
    unfold lazyOne
    rw [List.all_eq_true]
    intro q hq
    rw [List.all_eq_true]
    intro p hp
    have := (h2' p.1 (List.mem_of_getElem? (List.mem_zipIdx_iff_getElem?.1 hp))).2.1
    simp [this]
  refine ⟨drawOK_parts h1 (List.all_eq_true.2 fun o ho => (h2' o ho).1) hlz h4 h5 h8 (by simpa using h6) (by omega), hT, n, p, u, freeLoads l (allBefore ops.toList) h, ⟨hg, fun i o hi ho => (h2' o (hmem i o hi ho)).2.1, fun i o hi ho => (h2' o (hmem i o hi ho)).2.2, ?_, ?_⟩, hl'.symm⟩
  · intro t ht j oj hj hoj hd2
    rw [List.all_eq_true] at h10
    have := h10 t ht
    rw [List.all_eq_true] at this
    have := this _ (hmz j oj hj hoj)
    simp only [hd2, bne_self_eq_false, Bool.false_or] at this
    exact this
  · intro j oj hj hoj
    rw [List.all_eq_true] at h11
    have h12 := h11 _ (hmz j oj hj hoj)
    simp only [Bool.or_eq_true] at h12
    by_cases hb : ((allBefore ops.toList).getD h 0).testBit j = true
    · exact .inl hb
    · rcases h12 with (h12 | h12) | h12
      · exact absurd h12 hb
      · exact .inr (.inl h12)
      · obtain ⟨x, hx⟩ := Option.isSome_iff_exists.1 h12
        refine .inr (.inr ⟨x, ?_, ?_⟩)
        · revert hx
          unfold loadPtr
          split
          · rename_i y he
            intro hx
            simp only [Option.some.injEq] at hx
            subst hx
            exact he
          · simp
        · unfold freeLoads
          rw [List.mem_filterMap]
          refine ⟨(oj, j), hmz j oj hj hoj, ?_⟩
          simp only [hb]
          exact hx

section head
variable {ops : Array Oper} {l : List SOp} {h : Nat} {s0 : St} (hD : DrawOK ops l h) (hz0 : s0.lz = none)
  (hrun : ∀ j o, j < h → l[j]? = some o → opRun E cf true l o (hs E cf l s0 j) = some (hs E cf l s0 (j + 1)))

/-- What is so after some of the head's operations. -/
structure HI (E : Env) (cf : CallF) (l : List SOp) (h : Nat) (s0 : St) (p : Nat → Bool) (s : St) : Prop where
  bx : s.bx = s0.bx
  df : (s.df, s.lk, s.mu) = (s0.df, s0.lk, s0.mu)
  len : s.tm.length = s0.tm.length
  rdN : ∀ t, (∀ i o, i < h → l[i]? = some o → o.dst = some t ∨ o.op.kills = some t → p i = false) → s.rd t = s0.rd t
  rdV : ∀ i o t, i < h → l[i]? = some o → o.dst = some t → p i = true → (∀ k ok, k < h → l[k]? = some ok → ok.op.kills = some t → p k = false) → s.rd t = (hs E cf l s0 (i + 1)).rd t
  rdK : ∀ k o t, k < h → l[k]? = some o → o.op.kills = some t → p k = true → s.rd t = .sv .undef
  lzN : (∀ i o, i < h → l[i]? = some o → lazyOp o.op = true → p i = false) → s.lz = none
  lzV : ∀ i o, i < h → l[i]? = some o → lazyOp o.op = true → p i = true → s.lz = (hs E cf l s0 (i + 1)).lz

/-- What the head's read of what is appended to left. -/
def LzP (E : Env) (cf : CallF) (l : List SOp) (s0 : St) (k : Nat) (o : SOp) : Prop :=
  ∀ d ℓ, (hs E cf l s0 (k + 1)).lz = some (d, ℓ) → o.dst = some d ∧ ∀ t, ℓ = .tmp t → t ∈ o.looks l

theorem HI.step {p : Nat → Bool} {s : St} (hI : HI E cf l h s0 p s) {i : Nat} {o : SOp} (hS : HI E cf l h s0 (fun j => decide (j < i)) (hs E cf l s0 i)) (hD : DrawOK ops l h)
    (hrun : ∀ j o, j < h → l[j]? = some o → opRun E cf true l o (hs E cf l s0 j) = some (hs E cf l s0 (j + 1)))
    (hih : i < h) (ho : l[i]? = some o) (hu : p i = false) (hbits : ∀ j, ((allBefore ops.toList).getD i 0).testBit j = true → p j = true ∧ j < i)
    (hlater : ∀ k, k < h → p k = true → ((allBefore ops.toList).getD k 0).testBit i = true → False) (hLz : ∀ k o, k < h → l[k]? = some o → lazyOp o.op = true → p k = true → LzP E cf l s0 k o) :
    ∃ s2, opRun E cf true l o s = some s2 ∧ HI E cf l h s0 (fun j => p j || decide (j = i)) s2 ∧ (lazyOp o.op = true → LzP E cf l s0 i o) := by
  have hr := hrun i o hih ho
  have hlen : s.tm.length = (hs E cf l s0 i).tm.length := by rw [hI.len, hS.len]
  have hkl : ∀ k ok t, k < h → l[k]? = some ok → ok.op.kills = some t → t ∈ ok.looks l := by
    intro k ok t _ _ hk
    have : t ∈ ok.op.reads := by
      revert hk
      cases ok.op <;> simp only [AOp.kills, reduceCtorEq, false_implies]
      rename_i e k b d x y
      cases x <;> simp only [reduceCtorEq, false_implies, Option.some.injEq]
      rintro rfl
      simp [AOp.reads, Opd.reads]
    simp [SOp.looks, this]
  have halone : ∀ k ok t, k < h → l[k]? = some ok → ok.op.kills = some t → t ∈ o.looks l → k = i := by
    intro k ok t hk hok hkk ht
    rcases ((hD.kill k ok t hk hok hkk).2.2 i o hih ho).2 with e | e
    · exact e
    · exact absurd ht e
  have hlooks : ∀ t ∈ o.looks l, s.rd t = (hs E cf l s0 i).rd t := by
    intro t ht
    by_cases hex : ∃ j oj, j < h ∧ l[j]? = some oj ∧ oj.dst = some t
    · obtain ⟨j, oj, hj, hoj, hdj⟩ := hex
      obtain ⟨b1, b2⟩ := hbits j (hD.looks i j o oj t hih hj ho hoj ht hdj)
      rw [hI.rdV j oj t hj hoj hdj b1 (fun k ok hk hok hkk => by rw [halone k ok t hk hok hkk ht]; exact hu), hS.rdV j oj t hj hoj hdj (by simpa using b2) (fun k ok hk hok hkk => by rw [halone k ok t hk hok hkk ht]; simp)]
    · have hno : ∀ j oj, j < h → l[j]? = some oj → oj.dst ≠ some t := fun j oj h1 h2 h3 => hex ⟨j, oj, h1, h2, h3⟩
      rw [hI.rdN t (fun j oj h1 h2 h3 => by
          rcases h3 with h3 | h3
          · exact absurd h3 (hno j oj h1 h2)
          · rw [halone j oj t h1 h2 h3 ht]; exact hu), hS.rdN t (fun j oj h1 h2 h3 => by
          rcases h3 with h3 | h3
          · exact absurd h3 (hno j oj h1 h2)
          · rw [halone j oj t h1 h2 h3 ht]; simp)]
  have hlz : lazyOp o.op = true → (hs E cf l s0 i).lz = none ∧ s.lz = none := by
    intro hl
    refine ⟨hS.lzN (fun j oj hj hoj hlj => ?_), hI.lzN (fun j oj hj hoj hlj => ?_)⟩
    · have := hD.one i j o oj hih hj ho hoj hl hlj
      subst this; simp
    · have := hD.one i j o oj hih hj ho hoj hl hlj
      subst this; exact hu
  have hkz : o.op.kills ≠ none → o.guard = none ∧ (hs E cf l s0 i).lz = none ∧ s.lz = none := by
    intro hk
    obtain ⟨t, ht⟩ := Option.ne_none_iff_exists'.1 hk
    obtain ⟨k1, k2, k3⟩ := hD.kill i o t hih ho ht
    exact ⟨k1, hS.lzN (fun j oj hj hoj hlj => by rw [(k3 j oj hj hoj).1] at hlj; simp at hlj), hI.lzN (fun j oj hj hoj hlj => by rw [(k3 j oj hj hoj).1] at hlj; simp at hlj)⟩
  obtain ⟨v, r, e1, e2, e3, e4⟩ := opRun_local (s := hs E cf l s0 i) (s' := s) (e := []) (by rw [hI.bx, hS.bx, List.append_nil]) hlen hlooks (hD.head i o hih ho) hr hlz hkz
  have hfne : ∀ (x : St) t, o.op.kills ≠ some t → (x.forgetO o.op.kills).rd t = x.rd t := by
    intro x t hne
    cases hk : o.op.kills with
    | none => rfl
    | some u =>
      have : u ≠ t := fun e => hne (by rw [hk, e])
      simp only [St.forgetO, St.forget, St.rd, List.getD_eq_getElem?_getD, List.getElem?_set, if_neg this]
  have hfeq : ∀ (x : St) t, o.op.kills = some t → (x.forgetO o.op.kills).rd t = .sv .undef := by
    intro x t hk
    rw [hk]
    simp only [St.forgetO, St.forget, St.rd, List.getD_eq_getElem?_getD, List.getElem?_set, if_true]
    split <;> rfl
  refine ⟨_, e2, ?_, fun hl d ℓ hd => ?_⟩
  · obtain ⟨f1, f2, f3⟩ := fin_bx (s.forgetO o.op.kills) o.dst v r
    obtain ⟨f4, f5⟩ := forgetO_bx s o.op.kills
    have f6 := forgetO_len s o.op.kills
    refine ⟨f1.trans (f4.trans hI.bx), f2.trans (f5.trans hI.df), f3.trans (f6.trans hI.len), fun t ht => ?_, fun j oj t hj hoj hdj hpj hnk => ?_, fun k ok t hk hok hkk hpk => ?_, fun hn => ?_, fun j oj hj hoj hlj hpj => ?_⟩
    · have hne : o.dst ≠ some t := fun e => by have := ht i o hih ho (.inl e); simp at this
      have hne2 : o.op.kills ≠ some t := fun e => by have := ht i o hih ho (.inr e); simp at this
      rw [fin_rd_ne _ o.dst v r hne, hfne s t hne2]
      exact hI.rdN t (fun j oj h1 h2 h3 => by have := ht j oj h1 h2 h3; simp only [Bool.or_eq_false_iff] at this; exact this.1)
    · have hne2 : o.op.kills ≠ some t := fun e => by have := hnk i o hih ho e; simp at this
      by_cases hji : j = i
      · subst hji
        rw [ho] at hoj
        obtain rfl := Option.some.inj hoj
        rw [hdj] at e1 ⊢
        rw [e1]
        exact fin_rd_eq _ _ _ _ (by rw [forgetO_len, forgetO_len]; exact hlen.symm)
      · have hne : o.dst ≠ some t := fun e => hji (hD.dst j i oj o t hj hih hoj ho hdj e)
        rw [fin_rd_ne _ o.dst v r hne, hfne s t hne2]
        exact hI.rdV j oj t hj hoj hdj (by simpa [hji] using hpj) (fun k ok h1 h2 h3 => by have := hnk k ok h1 h2 h3; simp only [Bool.or_eq_false_iff] at this; exact this.1)
    · by_cases hki : k = i
      · subst hki
        rw [ho] at hok
        obtain rfl := Option.some.inj hok
        rw [fin_rd_ne _ o.dst v r (hD.kill k o t hk ho hkk).2.1]
        exact hfeq s t hkk
      · have hpk' : p k = true := by simpa [hki] using hpk
        have hne : o.dst ≠ some t := fun e => hlater k hk hpk' (hD.looks k i ok o t hk hih hok ho (hkl k ok t hk hok hkk) e)
        have hne2 : o.op.kills ≠ some t := fun e => hki (halone k ok t hk hok hkk (hkl i o t hih ho e))
        rw [fin_rd_ne _ o.dst v r hne, hfne s t hne2]
        exact hI.rdK k ok t hk hok hkk hpk'
    · have hlo : lazyOp o.op = false := by
        cases hl : lazyOp o.op with
        | false => rfl
        | true => have := hn i o hih ho hl; simp at this
      rw [e3 hlo]
      exact fin_lz_none _ o.dst v ((forgetO_lz s _).trans (hI.lzN (fun j oj h1 h2 h3 => by have := hn j oj h1 h2 h3; simp only [Bool.or_eq_false_iff] at this; exact this.1)))
    · by_cases hji : j = i
      · subst hji
        rw [ho] at hoj
        obtain rfl := Option.some.inj hoj
        obtain ⟨x, hx, _⟩ := e4 hlj
        rw [e1, hx]
        rfl
      · have hpj' : p j = true := by simpa [hji] using hpj
        have hlo : lazyOp o.op = false := by
          cases hl : lazyOp o.op with
          | false => rfl
          | true => exact absurd (hD.one j i oj o hj hih hoj ho hlj hl) hji
        have hsl := hI.lzV j oj hj hoj hlj hpj'
        rw [e3 hlo, fin_lz_keep (s.forgetO o.op.kills) o.dst v (fun d' ℓ hd => ?_)]
        · exact (forgetO_lz s _).trans hsl
        · rw [forgetO_lz, hsl] at hd
          obtain ⟨g1, g2⟩ := hLz j oj hj hoj hlj hpj' d' ℓ hd
          refine ⟨fun e => hji (hD.dst j i oj o d' hj hih hoj ho g1 e), fun t ht e => ?_⟩
          exact hlater j hj hpj' (hD.looks j i oj o t hj hih hoj ho (g2 t ht) e)
  · obtain ⟨x, hx, hx2⟩ := e4 hl
    rw [e1, hx] at hd
    exact hx2 d ℓ hd

include hD hz0 hrun in
/-- The text's order is one of the orders. -/
theorem hs_HI : ∀ i, i ≤ h → HI E cf l h s0 (fun j => decide (j < i)) (hs E cf l s0 i) ∧ ∀ k o, k < i → l[k]? = some o → lazyOp o.op = true → LzP E cf l s0 k o
  | 0, _ => ⟨⟨rfl, rfl, rfl, fun _ _ => rfl, fun i o t _ _ _ h => by simp at h, fun i o t _ _ _ h => by simp at h, fun _ => hz0, fun i o _ _ _ h => by simp at h⟩, fun k o h => by omega⟩
  | i + 1, hi => by
    have hih : i < h := by omega
    have hil : i < l.length := by have := hD.hle; omega
    have ho : l[i]? = some l[i] := by simp [hil]
    obtain ⟨hI, hLz⟩ := hs_HI i (by omega)
    have hedge := bits_lt hD.back
    have hios : i < ops.size := by rw [← hD.len]; exact hil
    obtain ⟨s2, h1, h2, h3⟩ := HI.step (p := fun j => decide (j < i)) (s := hs E cf l s0 i) hI hI hD hrun hih ho (by simp) (fun j hj => ⟨by simpa using hedge i hios j hj, hedge i hios j hj⟩) (fun k hk hp hb => by
        have : k < i := by simpa using hp
        have := hedge k (by omega) i hb
        omega) (fun k o hk hok hlk hp => hLz k o (by simpa using hp) hok hlk)
    have h4 := hrun i _ hih ho
    rw [h4] at h1
    obtain rfl := Option.some.inj h1
    have hp : (fun j => decide (j < i) || decide (j = i)) = fun j => decide (j < i + 1) := by
      funext j
      by_cases hj : j < i
      · simp [hj]; omega
      · by_cases hj2 : j = i
        · simp [hj2]
        · simp [hj, hj2]; omega
    rw [hp] at h2
    refine ⟨h2, fun k o hk hok hlk => ?_⟩
    by_cases hki : k = i
    · subst hki
      rw [ho] at hok
      obtain rfl := Option.some.inj hok
      exact h3 hlk
    · exact hLz k o (by omega) hok hlk

end head

end Go.Ev
