/- What only computes looks at its operands alone. -/
/- Regions that draw their order. -/
/- Regions that draw their order: every order comes to the text's order. -/
/- Regions that draw their order, whatever is drawn. -/
/- Code: what the evaluator comes to is what the code comes to. -/
import Derived.Test.YtgonelmeonncpaaGreatDoorCad
import Derived.Scope
import Derived.LoopN
set_option linter.unusedSimpArgs false
set_option linter.unusedVariables false
namespace Go.Ev
variable {E : Env} {cf : CallF} {dst : Option Nat}

theorem ev_local {s s' : St} {x : Opd} (h : ∀ t ∈ x.reads, s'.rd t = s.rd t) : x.ev E s' = x.ev E s := by
  cases x with
  | t n => exact h n (by simp [Opd.reads])
  | c v => rfl
  | g n => rfl

theorem sink_same {s s' : St} {v : AV} : (∀ p, sinkQ true s v = some p → p.2 = s) ∧ sinkQ true s' v = (sinkQ true s v).map fun p => (p.1, s') := by
  cases v with
  | sv v => cases v <;> simp [sinkQ, sink] <;> (rintro a b rfl rfl; rfl)
  | own e xs => simp [sinkQ, sink]
  | ptr i off => simp [sinkQ]
  | mrow i n e => simp [sinkQ]
  | clo f a b => simp [sinkQ, sink]

theorem sinks_same {s s' : St} : ∀ (xs : List Opd), (∀ x ∈ xs, x.ev E s' = x.ev E s) → (∀ p, sinks E true s xs = some p → p.2 = s) ∧ sinks E true s' xs = (sinks E true s xs).map fun p => (p.1, s')
  | [], _ => by simp [sinks]
  | x :: xs, h => by
    obtain ⟨h1, h2⟩ := sink_same (s := s) (s' := s') (v := x.ev E s)
    obtain ⟨k1, k2⟩ := sinks_same xs (fun y hy => h y (by simp [hy]))
    have hx := h x (by simp)
    simp only [sinks, hx, h2]
    cases hs : sinkQ true s (x.ev E s) with
    | none => simp
    | some p =>
      obtain ⟨v, s2⟩ := p
      have := h1 _ hs
      simp only at this
      subst this
      simp only [Option.map_some, k2]
      cases hss : sinks E true s2 xs with
      | none => simp
      | some p2 =>
        obtain ⟨vs, s3⟩ := p2
        have := k1 _ hss
        simp only at this
        subst this
        simp

theorem map_local {s s' : St} {xs : List Opd} (h : ∀ x ∈ xs, x.ev E s' = x.ev E s) : (xs.map fun x => (Opd.ev E s' x).arg) = xs.map fun x => (Opd.ev E s x).arg :=
  List.map_congr_left fun x hx => by rw [h x hx]

theorem mapOpt_congr {α β : Type} {f g : α → Option β} : ∀ {xs : List α}, (∀ x ∈ xs, f x = g x) → mapOpt f xs = mapOpt g xs
  | [], _ => rfl
  | x :: xs, h => by
    simp only [mapOpt]
    rw [h x (by simp), mapOpt_congr (fun y hy => h y (by simp [hy]))]

theorem optInt_local {s s' : St} {x : Option Opd} {d : Int} (h : ∀ t ∈ (x.map Opd.reads).getD [], s'.rd t = s.rd t) : optInt E s' x d = optInt E s x d := by
  cases x with
  | none => rfl
  | some o => simp only [optInt]; rw [ev_local (by simpa using h)]

theorem cellsAt_local {s s' : St} (hbx : s'.bx = s.bx) (v : AV) : cellsAt s' v = cellsAt s v := by
  unfold cellsAt
  rw [hbx]

theorem doAppQ_same {s s1 : St} {e k b : Nat} {d : Option Nat} {x y : Opd} {av : AV} (h : doAppQ E s e k b d x y = some (av, s1)) : s1 = s.forgetO (AOp.app e k b d x y).kills := by
  unfold doAppQ at h
  split at h <;> try (simp at h; done)
  split at h <;> try (simp at h; done)
  split at h <;> simp only [Option.some.injEq, Prod.mk.injEq, reduceCtorEq] at h
  exact h.2.symm

theorem doApp_local {s s' : St} {e k b t : Nat} {y : Opd} (hz : s.lz = none) (hz' : s'.lz = none) (ht : s'.rd t = s.rd t) (hy : y.ev E s' = y.ev E s) :
    (doApp E s' e k b (some t) (.t t) y).map (·.1) = (doApp E s e k b (some t) (.t t) y).map (·.1) := by
  unfold doApp appBase
  simp only [hz, hz', hy]
  cases (y.ev E s).elems with
  | none => rfl
  | some new =>
    simp only [ht]
    generalize s.rd t = v
    cases v with
    | own e' ys => simp only; split <;> rfl
    | sv v => cases v <;> simp only <;> (repeat' split) <;> simp_all
    | _ => rfl

theorem doAppQ_local {s s' : St} {e k b : Nat} {d : Option Nat} {x y : Opd} (hz : s.lz = s'.lz) (hr : ∀ t ∈ x.reads ++ y.reads, s'.rd t = s.rd t) :
    doAppQ E s' e k b d x y = (doAppQ E s e k b d x y).map fun p => (p.1, s'.forgetO (AOp.app e k b d x y).kills) := by
  cases x with
  | t t =>
    have ht : s'.rd t = s.rd t := hr t (by simp [Opd.reads])
    have hy : y.ev E s' = y.ev E s := ev_local (fun u hu => hr u (by simp [hu]))
    unfold doAppQ
    simp only [ht, ← hz]
    by_cases hc : d = some t ∧ s.lz = none ∧ (s.rd t).isOwn = true
    · rw [if_pos hc, if_pos hc]
      obtain ⟨rfl, h2, _⟩ := hc
      have := doApp_local (E := E) (e := e) (k := k) (b := b) h2 (hz ▸ h2) ht hy
      cases h1 : doApp E s e k b (some t) (.t t) y with
      | none => rw [h1] at this; simp only [Option.map_none, Option.map_eq_none_iff] at this; rw [this]; rfl
      | some p =>
        rw [h1] at this
        simp only [Option.map_some, Option.map_eq_some_iff] at this
        obtain ⟨p2, g1, g2⟩ := this
        rw [g1]
        obtain ⟨p21, p22⟩ := p2
        obtain ⟨p1, p12⟩ := p
        simp only at g2
        subst g2
        rfl
    · rw [if_neg hc, if_neg hc]; rfl
  | c v => rfl
  | g n => rfl

theorem stepV_same {s s1 : St} {op : AOp} {av : AV} (hh : headOp op = true) (h : stepV E cf true dst s op = some (av, s1)) : s1 = s.forgetO op.kills := by
  have hS := @sinks_same E s s
  have hs1 := @sink_same s s
  cases op <;> simp only [headOp, Bool.false_eq_true] at hh <;> simp only [stepV, if_true] at h
  case build z parts =>
    split at h <;> try (simp at h; done)
    rename_i vs s2 hvs
    have := (hS _ (fun _ _ => rfl)).1 _ hvs
    split at h <;> simp only [Option.some.injEq, Prod.mk.injEq, reduceCtorEq] at h
    rw [← h.2]; exact this
  case mkSl e k parts =>
    split at h <;> try (simp at h; done)
    rename_i vs s2 hvs
    have := (hS _ (fun _ _ => rfl)).1 _ hvs
    split at h <;> simp only [Option.some.injEq, Prod.mk.injEq, reduceCtorEq] at h
    rw [← h.2]; exact this
  case mkI t x =>
    split at h <;> simp only [Option.some.injEq, Prod.mk.injEq, reduceCtorEq] at h
    rename_i v s2 hv
    have := hs1.1 _ hv
    rw [← h.2]; exact this
  case app e k b d x y => exact doAppQ_same h
  case s2r x =>
    split at h <;> try (simp at h; done)
    simp only [Bool.true_or, if_true, Option.some.injEq, Prod.mk.injEq] at h
    exact h.2.symm
  case b2s x =>
    split at h <;> try (simp at h; done)
    rename_i xs s2 hv
    have := hs1.1 _ hv
    split at h <;> simp only [Option.some.injEq, Prod.mk.injEq, reduceCtorEq] at h
    rw [← h.2]; exact this
  all_goals
    repeat' split at h
    all_goals first
      | (simp only [Option.some.injEq, Prod.mk.injEq] at h; exact h.2.symm)
      | (simp at h; done)

/-- Does it not look into a box? -/
def noBx : AOp → Bool
  | .load .. | .loadL _ | .call .. => false
  | _ => true

theorem stepV_local {s s' : St} {op : AOp} (hz : s.lz = s'.lz ∨ op.kills = none) (hbx : noBx op = false → s'.bx = s.bx) (hr : ∀ t ∈ op.reads, s'.rd t = s.rd t) (hh : headOp op = true) : stepV E cf true dst s' op = (stepV E cf true dst s op).map fun p => (p.1, s'.forgetO op.kills) := by
  have hS := @sinks_same E s s'
  cases op <;> simp only [headOp, Bool.false_eq_true] at hh <;> simp only [AOp.reads] at hr
  all_goals simp only [stepV, if_true]
  case app e k b d x y =>
    rcases hz with hz | hz
    · exact doAppQ_local hz hr
    · cases x with
      | t t => simp [AOp.kills] at hz
      | c v => rfl
      | g n => rfl
  all_goals simp only [AOp.kills, St.forgetO]
  case mov x => rw [ev_local hr]; rfl
  case movL t => rw [hr t (by simp)]; cases dst <;> rfl
  case pick c x y =>
    rw [ev_local (x := c) (fun t ht => hr t (by simp [ht])), ev_local (x := x) (fun t ht => hr t (by simp [ht])), ev_local (x := y) (fun t ht => hr t (by simp [ht]))]
    cases (c.ev E s).bool? <;> rfl
  case load n p => rw [ev_local hr, cellsAt_local (hbx rfl)]; (repeat' split) <;> simp_all
  case loadL p => rw [ev_local hr, cellsAt_local (hbx rfl)]; (repeat' split) <;> simp_all
  case build z parts =>
    obtain ⟨k1, k2⟩ := hS (parts.map (·.2.2)) (fun x hx => ev_local (fun t ht => hr t (by
      obtain ⟨p, hp, rfl⟩ := List.mem_map.1 hx
      exact List.mem_flatMap.2 ⟨p, hp, ht⟩)))
    rw [k2]
    cases hss : sinks E true s (parts.map (·.2.2)) with
    | none => rfl
    | some p =>
      have hkn : (parts.map fun p => p.2.2.ev E s') = parts.map fun p => p.2.2.ev E s := List.map_congr_left fun p hp => ev_local (fun t ht => hr t (List.mem_flatMap.2 ⟨p, hp, ht⟩))
      rw [hkn]
      simp only [Option.map_some]
      cases fillS z ((parts.zip (keepNil (parts.map fun p => p.2.2.ev E s) p.1)).map fun p => (p.1.1, p.1.2.1, p.2)) <;> rfl
  case mkSl e k parts =>
    obtain ⟨k1, k2⟩ := hS parts (fun x hx => ev_local (fun t ht => hr t (List.mem_flatMap.2 ⟨x, hx, ht⟩)))
    rw [k2]
    cases hss : sinks E true s parts with
    | none => rfl
    | some p => simp only [Option.map_some]; split <;> rfl
  case b2s x =>
    rw [ev_local hr, (sink_same (s := s) (s' := s')).2]
    cases hss : sinkQ true s (x.ev E s) with
    | none => rfl
    | some p =>
      obtain ⟨v, s2⟩ := p
      cases v <;> simp only [Option.map_some] <;> try rfl
      split <;> rfl
  case mkI t x =>
    rw [ev_local hr, (sink_same (s := s) (s' := s')).2]
    cases hss : sinkQ true s (x.ev E s) <;> rfl
  case mkF f a b =>
    have ha : ∀ x ∈ a, x.ev E s' = x.ev E s := fun x hx => ev_local (fun t ht => hr t (List.mem_append.2 (.inl (List.mem_flatMap.2 ⟨x, hx, ht⟩))))
    have hb : ∀ x ∈ b, x.ev E s' = x.ev E s := fun x hx => ev_local (fun t ht => hr t (List.mem_append.2 (.inr (List.mem_flatMap.2 ⟨x, hx, ht⟩))))
    rw [map_local ha, map_local hb, mapOpt_congr (fun x hx => by rw [ha x hx]), mapOpt_congr (xs := b) (fun x hx => by rw [hb x hx])]
    split <;> rfl
  case subS x lo hi =>
    rw [ev_local (x := x) (fun t ht => hr t (by simp [ht]))]
    simp only [optInt_local (x := lo) (s := s) (s' := s') (fun t ht => hr t (by simp only [List.mem_append]; exact .inl (.inr ht))), optInt_local (x := hi) (s := s) (s' := s') (fun t ht => hr t (by simp only [List.mem_append]; exact .inr ht))]
    (repeat' split) <;> simp_all
  case subL e x lo hi =>
    rw [ev_local (x := x) (fun t ht => hr t (by simp [ht]))]
    simp only [optInt_local (x := lo) (s := s) (s' := s') (fun t ht => hr t (by simp only [List.mem_append]; exact .inl (.inr ht))), optInt_local (x := hi) (s := s) (s' := s') (fun t ht => hr t (by simp only [List.mem_append]; exact .inr ht))]
    (repeat' split) <;> simp_all
  case call f args =>
    rw [ev_local (x := f) (fun t ht => hr t (by simp [ht])), map_local (fun x hx => ev_local (fun t ht => hr t (List.mem_append.2 (.inr (List.mem_flatMap.2 ⟨x, hx, ht⟩))))), hbx rfl]
    (repeat' split) <;> simp_all
  case bin op x y => rw [ev_local (x := x) (fun t ht => hr t (by simp [ht])), ev_local (x := y) (fun t ht => hr t (by simp [ht]))]; (repeat' split) <;> simp_all
  case eqB op x y => rw [ev_local (x := x) (fun t ht => hr t (by simp [ht])), ev_local (x := y) (fun t ht => hr t (by simp [ht]))]; (repeat' split) <;> simp_all
  case iAddrS e x y => rw [ev_local (x := x) (fun t ht => hr t (by simp [ht])), ev_local (x := y) (fun t ht => hr t (by simp [ht]))]; (repeat' split) <;> simp_all
  case iAddrA n e x y => rw [ev_local (x := x) (fun t ht => hr t (by simp [ht])), ev_local (x := y) (fun t ht => hr t (by simp [ht]))]; (repeat' split) <;> simp_all
  case idxS x y => rw [ev_local (x := x) (fun t ht => hr t (by simp [ht])), ev_local (x := y) (fun t ht => hr t (by simp [ht]))]; (repeat' split) <;> simp_all
  case idxA l e n x y => rw [ev_local (x := x) (fun t ht => hr t (by simp [ht])), ev_local (x := y) (fun t ht => hr t (by simp [ht]))]; (repeat' split) <;> simp_all
  case bad => rfl
  all_goals (rw [ev_local hr]; (repeat' split) <;> simp_all)

theorem cellsAt_ext {s s' : St} {e : List Box} (hbx : s'.bx = s.bx ++ e) {v : AV} {cs : List SV} (h : cellsAt s v = some cs) : cellsAt s' v = some cs := by
  unfold cellsAt at h ⊢
  cases v with
  | ptr i off =>
    simp only at h ⊢
    rw [hbx]
    cases hi : s.bx[i]? with
    | none => rw [hi] at h; simp at h
    | some b =>
      rw [List.getElem?_append_left (List.getElem?_eq_some_iff.1 hi).1, hi]
      rw [hi] at h
      exact h
  | sv v => cases v <;> exact h
  | _ => exact h

theorem doLook_ext {f : Nat} {args : List AV} {bx e : List Box} {r : AV × List Box} (h : doLook E f args bx = some r) : doLook E f args (bx ++ e) = some (r.1, bx ++ e) := by
  unfold doLook at h ⊢
  split at h <;> try (simp at h; done)
  rename_i k hk
  split at h <;> try (simp at h; done)
  rename_i i
  split at h <;> try (simp at h; done)
  rename_i cs hi
  split at h <;> simp only [Option.some.injEq, reduceCtorEq] at h
  rename_i v hv
  subst h
  simp only [List.getElem?_append_left (List.getElem?_eq_some_iff.1 hi).1, hi, hv]

theorem doCall_ext {f : Nat} {args : List AV} {bx e : List Box} {r : AV × List Box} (h : doCall E cf true f args bx = some r) : doCall E cf true f args (bx ++ e) = some (r.1, bx ++ e) := by
  unfold doCall at h ⊢
  split at h
  · split at h <;> try (simp at h; done)
    split at h <;> simp only [Option.some.injEq, reduceCtorEq] at h
    subst h
    simp [*]
  · simp only [if_true] at h ⊢
    exact doLook_ext h

/-- Boxes more behind the others are not seen. -/
theorem stepV_ext {s s' s1 : St} {op : AOp} {av : AV} (hz : s.lz = s'.lz ∨ op.kills = none) {e : List Box} (hbx : s'.bx = s.bx ++ e) (hr : ∀ t ∈ op.reads, s'.rd t = s.rd t) (hh : headOp op = true)
    (h : stepV E cf true dst s op = some (av, s1)) : stepV E cf true dst s' op = some (av, s'.forgetO op.kills) := by
  by_cases hn : noBx op = true
  · rw [stepV_local hz (fun hf => by rw [hn] at hf; simp at hf) hr hh, h]
    rfl
  · cases op <;> simp only [noBx, not_true_eq_false] at hn
    · rename_i n p
      simp only [stepV] at h ⊢
      rw [ev_local hr]
      split at h <;> try (simp at h; done)
      rename_i cs hcs
      rw [cellsAt_ext hbx hcs]
      simp only
      split at h <;> simp only [Option.some.injEq, Prod.mk.injEq, reduceCtorEq] at h
      rename_i v hv
      rw [← h.1]; rfl
    · rename_i p
      simp only [stepV] at h ⊢
      rw [ev_local hr]
      split at h <;> try (simp at h; done)
      rename_i cs hcs
      rw [cellsAt_ext hbx hcs]
      simp only
      split at h <;> simp only [Option.some.injEq, Prod.mk.injEq, reduceCtorEq] at h
      rename_i v hv
      rw [← h.1]; rfl
    · rename_i f args
      simp only [AOp.reads] at hr
      simp only [stepV] at h ⊢
      rw [ev_local (x := f) (fun t ht => hr t (by simp [ht])), map_local (fun x hx => ev_local (fun t ht => hr t (List.mem_append.2 (.inr (List.mem_flatMap.2 ⟨x, hx, ht⟩))))), hbx]
      split at h <;> try (simp at h; done)
      rename_i k first cap hk
      split at h <;> simp only [Option.some.injEq, Prod.mk.injEq, reduceCtorEq] at h
      rename_i r bx hcl
      rw [doCall_ext hcl, ← h.1]; rfl

end Go.Ev

set_option linter.unusedSimpArgs false
set_option linter.unusedVariables false
namespace Go.Ev
variable {P : Program} {E : Env} {γ : Gh} {a : Act} {w : World} {s : St} {cf : CallF} {q : Bool} {s1 : St} {av : AV}

/-! ### What must come ahead -/

theorem allBefore_get (l : List Oper) : (allBefore l).length = l.length ∧ ∀ (i : Nat) (o : Oper), l[i]? = some o → (allBefore l).getD i 0 = befores ((allBefore l).take i) o := by
  have key : ∀ (l : List Oper) (acc : List Nat), (l.foldl (fun acc o => acc ++ [befores acc o]) acc).length = acc.length + l.length ∧ (l.foldl (fun acc o => acc ++ [befores acc o]) acc).take acc.length = acc ∧
      ∀ (i : Nat) (o : Oper), l[i]? = some o → (l.foldl (fun acc o => acc ++ [befores acc o]) acc).getD (acc.length + i) 0 = befores ((l.foldl (fun acc o => acc ++ [befores acc o]) acc).take (acc.length + i)) o := by
    intro l
    induction l with
    | nil => intro acc; simp
    | cons o l ih =>
      intro acc
      simp only [List.foldl_cons]
      obtain ⟨h1, h2, h3⟩ := ih (acc ++ [befores acc o])
      generalize hr : l.foldl (fun acc o => acc ++ [befores acc o]) (acc ++ [befores acc o]) = r at h1 h2 h3
      simp only [List.length_append, List.length_singleton] at h1 h2 h3
      have htk : r.take acc.length = acc := by
        have := congrArg (List.take acc.length) h2
        rw [List.take_take, Nat.min_eq_left (by omega), List.take_left] at this
        exact this
      refine ⟨by simp [h1]; omega, htk, fun i o' ho => ?_⟩
      cases i with
      | zero =>
        simp only [List.getElem?_cons_zero, Option.some.injEq] at ho
        subst ho
        have h4 : r[acc.length]? = some (befores acc o) := by
          have := congrArg (fun x => x[acc.length]?) h2
          simp only [List.getElem?_take] at this
          rw [if_pos (by omega)] at this
          rw [this]; simp
        rw [Nat.add_zero, List.getD_eq_getElem?_getD, h4, htk]; rfl
      | succ i =>
        have := h3 i o' (by simpa using ho)
        rw [show acc.length + (i + 1) = acc.length + 1 + i from by omega]
        exact this
  obtain ⟨h1, _, h3⟩ := key l []
  exact ⟨by simpa [allBefore] using h1, fun i o ho => by simpa [allBefore] using h3 i o ho⟩

theorem befores_bit {acc : List Nat} {o : Oper} {j : Nat} (h : (befores acc o).testBit j = true) : ∃ e ∈ o.after, Region.binds .any e = true ∧ (j = e.on ∨ (acc.getD e.on 0).testBit j = true) := by
  unfold befores at h
  rw [← Array.foldl_toList] at h
  have key : ∀ (l : List Edge) (s : Nat), (l.foldl (fun s e => if Region.binds .any e then s ||| 2 ^ e.on ||| acc.getD e.on 0 else s) s).testBit j = true → s.testBit j = true ∨ ∃ e ∈ l, Region.binds .any e = true ∧ (j = e.on ∨ (acc.getD e.on 0).testBit j = true) := by
    intro l
    induction l with
    | nil => intro s h; exact .inl h
    | cons e l ih =>
      intro s h
      simp only [List.foldl_cons] at h
      rcases ih _ h with h1 | ⟨e', h1, h2⟩
      · split at h1
        · rename_i hb
          simp only [Nat.testBit_or, Bool.or_eq_true, Nat.testBit_two_pow, decide_eq_true_eq] at h1
          rcases h1 with (h1 | h1) | h1
          · exact .inl h1
          · exact .inr ⟨e, by simp, hb, .inl h1.symm⟩
          · exact .inr ⟨e, by simp, hb, .inr h1⟩
        · exact .inl h1
      · exact .inr ⟨e', by simp [h1], h2⟩
  rcases key _ _ h with h1 | ⟨e, h1, h2⟩
  · simp at h1
  · exact ⟨e, by simpa using h1, h2⟩

/-- What is listed has what comes ahead of it listed. -/
structure Clo (ops : Array Oper) (listed : Array Bool) : Prop where
  size : listed.size = ops.size
  clo : ∀ (i : Nat) (o : Oper), ops[i]? = some o → listed.getD i false = true → ∀ e ∈ o.after, Region.binds .any e = true → listed.getD e.on false = true

theorem Clo.bits {ops : Array Oper} {listed : Array Bool} (hb : edgesBack ops.toList = true) (h : Clo ops listed) : ∀ (i : Nat) (o : Oper), ops[i]? = some o → (∀ e ∈ o.after, Region.binds .any e = true → listed.getD e.on false = true) →
    ∀ j, ((allBefore ops.toList).getD i 0).testBit j = true → listed.getD j false = true ∧ j < i := by
  intro i
  induction i using Nat.strongRecOn with
  | _ i ih =>
    intro o ho hl j hj
    rw [(allBefore_get ops.toList).2 i o (by simpa using ho)] at hj
    obtain ⟨e, h1, h2, h3⟩ := befores_bit hj
    have hback : e.on < i := by
      unfold edgesBack at hb
      rw [List.all_eq_true] at hb
      have h4 := hb (o, i) (List.mem_zipIdx_iff_getElem?.2 (by simpa using ho))
      simp only [Array.all_eq_true'] at h4
      have := h4 e h1
      simpa [h2] using this
    have hlt : e.on < ops.size := by have := (Array.getElem?_eq_some_iff.1 ho).1; omega
    rcases h3 with rfl | h3
    · exact ⟨hl e h1 h2, hback⟩
    · have hle := hl e h1 h2
      rw [List.getD_eq_getElem?_getD, List.getElem?_take, if_pos hback, ← List.getD_eq_getElem?_getD] at h3
      obtain ⟨k1, k2⟩ := ih e.on hback ops[e.on] (by simp [hlt]) (fun e' he' hb' => h.clo e.on _ (by simp [hlt]) hle e' he' hb') j h3
      exact ⟨k1, by omega⟩

theorem Clo.set {ops : Array Oper} {listed : Array Bool} (h : Clo ops listed) {i : Nat} (hi : i ∈ Region.ready .any ops listed) : Clo ops (listed.setIfInBounds i true) := by
  obtain ⟨hu, o, ho, hall⟩ := mem_ready.1 hi
  refine ⟨by simp [h.size], fun j oj hj hl e he hb => ?_⟩
  by_cases hij : i = j
  · subst hij
    rw [ho] at hj
    obtain rfl := Option.some.inj hj
    exact getD_set_true (hall e he hb)
  · rw [getD_set_ne false hij] at hl
    exact getD_set_true (h.clo j oj hj hl e he hb)

theorem getD_tf {listed : Array Bool} {i : Nat} (h : i < listed.size) : listed.getD i true = listed.getD i false := by
  simp [Array.getD_eq_getD_getElem?, h]

/-- The first that is not listed is ready. -/
theorem first_ready {ops : Array Oper} {listed : Array Bool} (hb : edgesBack ops.toList = true) (h : Clo ops listed) {i : Nat} (hi : i < ops.size) (hu : listed.getD i false = false) (hf : ∀ j, j < i → listed.getD j false = true) : i ∈ Region.ready .any ops listed := by
  refine mem_ready.2 ⟨by rw [getD_tf (by rw [h.size]; exact hi)]; exact hu, ops[i], by simp [hi], fun e he hbd => hf _ ?_⟩
  unfold edgesBack at hb
  rw [List.all_eq_true] at hb
  have h4 := hb (ops[i], i) (List.mem_zipIdx_iff_getElem?.2 (by simp [hi]))
  simp only [Array.all_eq_true'] at h4
  have := h4 e he
  simpa [hbd] using this

theorem first_un {n : Nat} {p : Nat → Bool} (h : ∃ i, i < n ∧ p i = false) : ∃ i, i < n ∧ p i = false ∧ ∀ j, j < i → p j = true := by
  induction n with
  | zero => obtain ⟨i, h, _⟩ := h; omega
  | succ n ih =>
    by_cases h' : ∃ i, i < n ∧ p i = false
    · obtain ⟨i, h1, h2⟩ := ih h'; exact ⟨i, by omega, h2⟩
    · obtain ⟨i, h1, h2⟩ := h
      have : i = n := by
        rcases Nat.lt_or_ge i n with h3 | h3
        · exact absurd ⟨i, h3, h2⟩ h'
        · omega
      subst this
      refine ⟨i, h1, h2, fun j hj => ?_⟩
      cases hp : p j with
      | true => rfl
      | false => exact absurd ⟨j, hj, hp⟩ h'

/-- The tail's order is forced. -/
theorem tail_bits {ops : Array Oper} {i : Nat} (hi : i < ops.size) (h : tailFrom (allBefore ops.toList) ≤ i) : ∀ j, j < i → ((allBefore ops.toList).getD i 0).testBit j = true := by
  have key : ∀ (l : List Nat) (k h0 : Nat), (∀ (j : Nat) (x : Nat), l[j]? = some x → (l.zipIdx k).foldl (fun h p => if p.1 = 2 ^ p.2 - 1 then h else p.2 + 1) h0 ≤ k + j → x = 2 ^ (k + j) - 1) ∧ (h0 ≤ k → h0 ≤ (l.zipIdx k).foldl (fun h p => if p.1 = 2 ^ p.2 - 1 then h else p.2 + 1) h0) := by
    intro l
    induction l with
    | nil => intro k h0; simp
    | cons x l ih =>
      intro k h0
      simp only [List.zipIdx_cons, List.foldl_cons]
      by_cases hx : x = 2 ^ k - 1
      · rw [if_pos hx]
        obtain ⟨h1, h2⟩ := ih (k + 1) h0
        refine ⟨fun j y hy hle => ?_, fun h => h2 (by omega)⟩
        cases j with
        | zero => simp only [List.getElem?_cons_zero, Option.some.injEq] at hy; subst hy; exact hx
        | succ j =>
          have := h1 j y (by simpa using hy) (by omega)
          rw [show k + (j + 1) = k + 1 + j from by omega]; exact this
      · rw [if_neg hx]
        obtain ⟨h1, h2⟩ := ih (k + 1) (k + 1)
        have h3 := h2 (Nat.le_refl _)
        refine ⟨fun j y hy hle => ?_, fun h => by omega⟩
        cases j with
        | zero => omega
        | succ j =>
          have := h1 j y (by simpa using hy) (by omega)
          rw [show k + (j + 1) = k + 1 + j from by omega]; exact this
  intro j hj
  have hlen : i < (allBefore ops.toList).length := by rw [(allBefore_get _).1]; simpa using hi
  have h1 := (key (allBefore ops.toList) 0 0).1 i (allBefore ops.toList)[i] (by simp [hlen]) (by simpa [tailFrom] using h)
  rw [List.getD_eq_getElem?_getD, List.getElem?_eq_getElem hlen, Option.getD_some, h1, Nat.testBit_two_pow_sub_one]
  simpa using hj

/-! ### One operation of the head, in any order -/

def fin (s : St) (dst : Option Nat) (v : AV) : Option (Option (Nat × Loc)) → St
  | none => s.put dst v
  | some l => { (s.put dst v) with lz := l }

theorem wants_local {l : List SOp} {o : SOp} {s s' : St} (hr : ∀ t ∈ o.looks l, s'.rd t = s.rd t) : wants l s' o = wants l s o := by
  unfold wants
  cases hg : o.guard with
  | none => rfl
  | some gw =>
    obtain ⟨j, b⟩ := gw
    simp only
    cases hj : l[j]? with
    | none => rfl
    | some g =>
      simp only
      cases hd : g.dst with
      | none => rfl
      | some d =>
        simp only
        rw [hr d (by simp [SOp.looks, hg, hj, hd])]

theorem lazyAfter_local {dst : Option Nat} {op : AOp} {s s' : St} (hlen : s'.tm.length = s.tm.length) (hr : ∀ t ∈ op.reads, s'.rd t = s.rd t) : lazyAfter E s' dst op = lazyAfter E s dst op := by
  cases op with
  | movL t => simp only [lazyAfter, hlen]
  | loadL p => simp only [lazyAfter]; rw [ev_local hr, hlen]
  | _ => rfl

theorem lazyAfter_none {dst : Option Nat} {op : AOp} {s : St} (h : lazyOp op = false) : lazyAfter E s dst op = none := by
  cases op <;> first | rfl | simp [lazyOp] at h

theorem lazyAfter_some {dst : Option Nat} {op : AOp} {s : St} (h : lazyOp op = true) : ∃ r, lazyAfter E s dst op = some r ∧ ∀ d t, r = some (d, .tmp t) → t ∈ op.reads ∧ dst = some d := by
  cases op <;> simp only [lazyOp, Bool.false_eq_true] at h
  · rename_i t
    simp only [lazyAfter]
    split
    · split
      · exact ⟨_, rfl, by simp⟩
      · refine ⟨_, rfl, fun d t' h => ?_⟩
        simp only [Option.some.injEq, Prod.mk.injEq, Loc.tmp.injEq] at h
        obtain ⟨rfl, rfl⟩ := h
        exact ⟨by simp [AOp.reads], rfl⟩
    · exact ⟨_, rfl, by simp⟩
  · simp only [lazyAfter]
    split
    · split
      · exact ⟨_, rfl, by simp⟩
      · exact ⟨_, rfl, by simp⟩
    · exact ⟨_, rfl, by simp⟩

theorem lazyAfter_dst {dst : Option Nat} {op : AOp} {s : St} {d : Nat} {ℓ : Loc} (h : lazyAfter E s dst op = some (some (d, ℓ))) : dst = some d := by
  cases op <;> simp only [lazyAfter, reduceCtorEq] at h
  · split at h
    · split at h <;> simp only [Option.some.injEq, Prod.mk.injEq, reduceCtorEq] at h; rw [h.1]
    · simp at h
  · split at h
    · split at h <;> simp only [Option.some.injEq, Prod.mk.injEq, reduceCtorEq] at h; rw [h.1]
    · simp at h

theorem forgetO_len (s : St) (k : Option Nat) : (s.forgetO k).tm.length = s.tm.length := by cases k <;> simp [St.forgetO, St.forget]
theorem forgetO_lz (s : St) (k : Option Nat) : (s.forgetO k).lz = s.lz := by cases k <;> rfl
theorem forgetO_bx (s : St) (k : Option Nat) : (s.forgetO k).bx = s.bx ∧ ((s.forgetO k).df, (s.forgetO k).lk) = (s.df, s.lk) := by cases k <;> exact ⟨rfl, rfl⟩

theorem pre_true (op : AOp) (s : St) : pre true op s = s := by cases op <;> rfl

theorem opRun_local {l : List SOp} {o : SOp} {s s' s1 : St} {e : List Box} (hbx : s'.bx = s.bx ++ e) (hlen : s'.tm.length = s.tm.length) (hr : ∀ t ∈ o.looks l, s'.rd t = s.rd t) (hh : headOp o.op = true) (h : opRun E cf true l o s = some s1)
    (hz : lazyOp o.op = true → s.lz = none ∧ s'.lz = none) (hk : o.op.kills ≠ none → o.guard = none ∧ s.lz = none ∧ s'.lz = none) :
    ∃ v r, s1 = fin (s.forgetO o.op.kills) o.dst v r ∧ opRun E cf true l o s' = some (fin (s'.forgetO o.op.kills) o.dst v r) ∧ (lazyOp o.op = false → r = none) ∧ (lazyOp o.op = true → ∃ x, r = some x ∧ ∀ d ℓ, x = some (d, ℓ) → o.dst = some d ∧ ∀ t, ℓ = .tmp t → t ∈ o.looks l) := by
  have hrr : ∀ t ∈ o.op.reads, s'.rd t = s.rd t := fun t ht => hr t (by simp [SOp.looks, ht])
  have hzk : s.lz = s'.lz ∨ o.op.kills = none := by
    cases hkk : o.op.kills with
    | none => exact .inr rfl
    | some t => obtain ⟨_, h1, h2⟩ := hk (by simp [hkk]); exact .inl (by rw [h1, h2])
  unfold opRun at h ⊢
  rw [wants_local hr]
  split at h
  · rename_i hw
    simp only [stepOp, pre_true] at h ⊢
    rw [lazyAfter_local hlen hrr]
    split at h <;> try (simp at h; done)
    rename_i v s2 hst
    have := stepV_same hh hst
    subst this
    rw [stepV_ext hzk hbx hrr hh hst]
    simp only
    cases hl : lazyOp o.op with
    | false =>
      rw [lazyAfter_none hl] at h ⊢
      simp only [Option.some.injEq] at h
      exact ⟨v, none, h.symm, rfl, fun _ => rfl, by simp⟩
    | true =>
      obtain ⟨x, hx, hx2⟩ := lazyAfter_some (E := E) (dst := o.dst) (s := s) hl
      rw [hx] at h ⊢
      simp only [Option.some.injEq] at h
      refine ⟨v, some x, h.symm, rfl, by simp, fun _ => ⟨x, rfl, fun d ℓ hd => ⟨lazyAfter_dst (by rw [hx, hd]), fun t ht => ?_⟩⟩⟩
      subst ht
      have := (hx2 d t hd).1
      simp [SOp.looks, this]
  · rename_i hw
    have hkn : o.op.kills = none := by
      cases hkk : o.op.kills with
      | none => rfl
      | some t =>
        have := (hk (by simp [hkk])).1
        simp [wants, this] at hw
    rw [hkn]
    simp only [St.forgetO]
    simp only [Option.some.injEq] at h ⊢
    cases hl : lazyOp o.op with
    | false => exact ⟨.sv .off, none, h.symm, rfl, fun _ => rfl, by simp⟩
    | true =>
      obtain ⟨z1, z2⟩ := hz hl
      have hput : ∀ (x : St), x.lz = none → x.put o.dst (.sv .off) = { (x.put o.dst (.sv .off)) with lz := none } := by
        intro x hx
        cases o.dst with
        | none => simp only [St.put]; cases x; simp_all
        | some d => simp only [St.put, St.set, hx, clearTmp]
      refine ⟨.sv .off, some none, ?_, ?_, by simp, fun _ => ⟨none, rfl, by simp⟩⟩
      · rw [← h]; exact hput s z1
      · show _ = _; exact hput s' z2
  · simp at h

end Go.Ev

set_option linter.unusedSimpArgs false
set_option linter.unusedVariables false
namespace Go.Ev
variable {P : Program} {E : Env} {γ : Gh} {a : Act} {w : World} {s : St} {cf : CallF} {q : Bool} {s1 : St} {av : AV}

structure DrawOK (ops : Array Oper) (l : List SOp) (h : Nat) : Prop where
  len : l.length = ops.size
  hle : h ≤ l.length
  back : edgesBack ops.toList = true
  head : ∀ i o, i < h → l[i]? = some o → headOp o.op = true
  one : ∀ i j oi oj, i < h → j < h → l[i]? = some oi → l[j]? = some oj → lazyOp oi.op = true → lazyOp oj.op = true → i = j
  dst : ∀ i j oi oj d, i < h → j < h → l[i]? = some oi → l[j]? = some oj → oi.dst = some d → oj.dst = some d → i = j
  looks : ∀ i j oi oj t, i < h → j < h → l[i]? = some oi → l[j]? = some oj → t ∈ oi.looks l → oj.dst = some t → ((allBefore ops.toList).getD i 0).testBit j = true
  kill : ∀ i oi t, i < h → l[i]? = some oi → oi.op.kills = some t → oi.guard = none ∧ oi.dst ≠ some t ∧ ∀ j oj, j < h → l[j]? = some oj → lazyOp oj.op = false ∧ (i = j ∨ t ∉ oj.looks l)

/-- A new variable that is made at any time, ahead of the tail. -/
structure NewOK (l : List SOp) (g : Nat) (d : Nat) (z : List SV) : Prop where
  op : l[g]? = some { dst := some d, op := .new z, guard := none }
  lazy : ∀ i o, i < g → l[i]? = some o → lazyOp o.op = false
  dst : ∀ i o, i < g → l[i]? = some o → o.dst ≠ some d
  kill : ∀ i o, i < g → l[i]? = some o → o.op.kills ≠ some d
  looks : ∀ i o, i < g → l[i]? = some o → d ∉ o.looks l

theorem drawOK_parts {ops : Array Oper} {l : List SOp} {h : Nat} (h1 : edgesBack ops.toList = true) (h2 : (l.take h).all (fun o => headOp o.op) = true) (h3 : lazyOne (l.take h) = true) (h4 : dstsOK (l.take h) = true) (h5 : looksOK (l.take h) l (allBefore ops.toList) = true) (h8 : killsOK (l.take h) l = true) (hlen : l.length = ops.size) (h7 : h ≤ l.length) : DrawOK ops l h := by
  have hmem : ∀ i o, i < h → l[i]? = some o → (o, i) ∈ (l.take h).zipIdx := fun i o hi ho => List.mem_zipIdx_iff_getElem?.2 (by simp [List.getElem?_take, hi, ho])
  refine ⟨hlen, h7, h1, fun i o hi ho => ?_, fun i j oi oj hi hj hoi hoj hli hlj => ?_, fun i j oi oj d hi hj hoi hoj hdi hdj => ?_, fun i j oi oj t hi hj hoi hoj ht hdj => ?_, fun i oi t hi hoi hk => ?_⟩
  · rw [List.all_eq_true] at h2
    exact h2 o (List.mem_of_getElem? (i := i) (by rw [List.getElem?_take, if_pos hi]; exact ho))
  · unfold lazyOne at h3
    rw [List.all_eq_true] at h3
    have := h3 _ (hmem i oi hi hoi)
    rw [List.all_eq_true] at this
    have := this _ (hmem j oj hj hoj)
    simpa [hli, hlj] using this
  · unfold dstsOK at h4
    rw [List.all_eq_true] at h4
    have := h4 _ (hmem i oi hi hoi)
    rw [List.all_eq_true] at this
    have := this _ (hmem j oj hj hoj)
    simpa [hdi, hdj] using this
  · unfold looksOK at h5
    rw [List.all_eq_true] at h5
    have := h5 _ (hmem i oi hi hoi)
    rw [List.all_eq_true] at this
    have := this t ht
    rw [List.all_eq_true] at this
    have := this _ (hmem j oj hj hoj)
    simpa [hdj] using this
  · unfold killsOK at h8
    rw [List.all_eq_true] at h8
    have := h8 _ (hmem i oi hi hoi)
    simp only [hk, Bool.and_eq_true, List.all_eq_true, beq_iff_eq, bne_iff_ne, ne_eq] at this
    obtain ⟨⟨g1, g2⟩, g3⟩ := this
    refine ⟨by simpa using g1, by simpa using g2, fun j oj hj hoj => ?_⟩
    have := g3 _ (hmem j oj hj hoj)
    simpa using this

theorem drawOK_of {ops : Array Oper} {l : List SOp} {h : Nat} (hd : drawHead ops l = some h) : DrawOK ops l h ∧ (tailFrom (allBefore ops.toList) = h ∨ tailFrom (allBefore ops.toList) = h + 1 ∧ ∃ d z, NewOK l h d z) := by
  unfold drawHead at hd
  simp only at hd
  split at hd
  · simp only [Option.some.injEq] at hd
    rename_i hc
    simp only [Bool.and_eq_true, beq_iff_eq, decide_eq_true_eq] at hc
    obtain ⟨⟨⟨⟨⟨⟨⟨h1, h2⟩, h3⟩, h4⟩, h5⟩, h8⟩, h6⟩, h7⟩ := hc
    rw [hd] at h2 h3 h4 h5 h7 h8
    exact ⟨drawOK_parts h1 h2 h3 h4 h5 h8 (by simpa using h6) h7, .inl hd⟩
  · split at hd <;> simp only [Option.some.injEq, reduceCtorEq] at hd
    rename_i hc
    simp only [Bool.and_eq_true, beq_iff_eq, decide_eq_true_eq] at hc
    obtain ⟨⟨⟨⟨h1, h0⟩, h2⟩, h6⟩, h7⟩ := hc
    rw [hd] at h2
    unfold newAt at h2
    split at h2 <;> try (simp at h2; done)
    rename_i d z hg
    simp only [Bool.and_eq_true, List.all_eq_true, bne_iff_ne, ne_eq, Bool.not_eq_true'] at h2
    obtain ⟨⟨⟨h2, h4⟩, h5⟩, h8⟩ := h2
    have hmem : ∀ i o, i < h → l[i]? = some o → o ∈ l.take h := fun i o hi ho => List.mem_of_getElem? (i := i) (by rw [List.getElem?_take, if_pos hi]; exact ho)
    refine ⟨drawOK_parts h1 (List.all_eq_true.2 fun o ho => (h2 o ho).1.1.1.1) ?_ h4 h5 h8 (by simpa using h6) (by omega), .inr ⟨by omega, d, z, hg, fun i o hi ho => (h2 o (hmem i o hi ho)).1.1.1.2, fun i o hi ho => (h2 o (hmem i o hi ho)).1.1.2, fun i o hi ho => (h2 o (hmem i o hi ho)).1.2, fun i o hi ho => ?_⟩⟩
    · unfold lazyOne
      rw [List.all_eq_true]
      intro p hp
      have := (h2 p.1 (List.mem_of_getElem? (List.mem_zipIdx_iff_getElem?.1 hp))).1.1.1.2
      simp [this]
    · have := (h2 o (hmem i o hi ho)).2
      simpa using this

/-- The head's states in the text's order. -/
def hs (E : Env) (cf : CallF) (l : List SOp) (s0 : St) : Nat → St
  | 0 => s0
  | i + 1 => match l[i]? with
    | some o => (opRun E cf true l o (hs E cf l s0 i)).getD (hs E cf l s0 i)
    | none => hs E cf l s0 i

theorem hs_run {l : List SOp} {s0 sH : St} {h : Nat} (hl : h ≤ l.length) : ∀ (k i : Nat), i + k = h → runOps E cf true l ((l.drop i).take k) (hs E cf l s0 i) = some sH →
    (∀ j o, i ≤ j → j < h → l[j]? = some o → opRun E cf true l o (hs E cf l s0 j) = some (hs E cf l s0 (j + 1))) ∧ hs E cf l s0 h = sH
  | 0, i, hi, hr => by
    simp only [List.take_zero, runOps, Option.some.injEq] at hr
    rw [Nat.add_zero] at hi
    subst hi
    exact ⟨fun j o h1 h2 => by omega, hr⟩
  | k + 1, i, hi, hr => by
    have hil : i < l.length := by omega
    have hg : l[i]? = some l[i] := by simp [hil]
    rw [drop_cons hg, List.take_succ_cons] at hr
    simp only [runOps] at hr
    split at hr <;> try (simp at hr; done)
    rename_i s2 hs2
    have hnext : hs E cf l s0 (i + 1) = s2 := by simp only [hs, hg, hs2, Option.getD_some]
    rw [← hnext] at hr
    obtain ⟨k1, k2⟩ := hs_run hl k (i + 1) (by omega) hr
    refine ⟨fun j o h1 h2 ho => ?_, k2⟩
    by_cases hj : j = i
    · subst hj
      rw [hg] at ho
      obtain rfl := Option.some.inj ho
      rw [hnext]; exact hs2
    · exact k1 j o (by omega) h2 ho

theorem fin_bx (s : St) (d : Option Nat) (v : AV) (r : Option (Option (Nat × Loc))) : (fin s d v r).bx = s.bx ∧ ((fin s d v r).df, (fin s d v r).lk) = (s.df, s.lk) ∧ (fin s d v r).tm.length = s.tm.length := by
  cases r <;> cases d <;> simp [fin, St.put, St.set]

theorem rd_big {s : St} {t : Nat} (h : s.tm.length ≤ t) : s.rd t = .sv .undef := by
  simp only [St.rd, List.getD_eq_getElem?_getD]
  rw [List.getElem?_eq_none h]; rfl

theorem fin_rd_ne (s : St) (d : Option Nat) (v : AV) (r : Option (Option (Nat × Loc))) {t : Nat} (h : d ≠ some t) : (fin s d v r).rd t = s.rd t := by
  have key : (s.put d v).rd t = s.rd t := by
    cases d with
    | none => rfl
    | some d' =>
      simp only [St.put, St.rd, St.set, List.getD_eq_getElem?_getD, List.getElem?_set]
      rw [if_neg (by intro e; exact h (by rw [e]))]
  cases r with
  | none => exact key
  | some x => exact key

theorem fin_rd_eq (s s' : St) (v : AV) (r : Option (Option (Nat × Loc))) {t : Nat} (hl : s'.tm.length = s.tm.length) : (fin s (some t) v r).rd t = (fin s' (some t) v r).rd t := by
  have key : ∀ x : St, (fin x (some t) v r).rd t = if t < x.tm.length then v else .sv .undef := by
    intro x
    have : (fin x (some t) v r).rd t = (x.put (some t) v).rd t := by cases r <;> rfl
    rw [this]
    by_cases ht : t < x.tm.length
    · rw [St.put, rd_set x t t v ht, if_pos rfl, if_pos ht]
    · rw [if_neg ht, rd_big (by simp [St.put, St.set]; omega)]
  rw [key, key, hl]

theorem fin_lz_none (s : St) (d : Option Nat) (v : AV) (h : s.lz = none) : (fin s d v none).lz = none := by
  cases d <;> simp [fin, St.put, St.set, h, clearTmp]

theorem fin_lz_keep (s : St) (d : Option Nat) (v : AV) (h : ∀ d' ℓ, s.lz = some (d', ℓ) → d ≠ some d' ∧ ∀ t, ℓ = .tmp t → d ≠ some t) : (fin s d v none).lz = s.lz := by
  cases d with
  | none => rfl
  | some x =>
    simp only [fin, St.put, St.set]
    cases hz : s.lz with
    | none => rfl
    | some p =>
      obtain ⟨d', ℓ⟩ := p
      obtain ⟨h1, h2⟩ := h d' ℓ hz
      simp only [clearTmp]
      rw [if_neg (by intro e; exact h1 (by rw [e]))]
      cases ℓ with
      | tmp t => simp only; rw [if_neg (by intro e; exact h2 t rfl (by rw [e]))]
      | _ => rfl

theorem bits_lt {ops : Array Oper} (hback : edgesBack ops.toList = true) : ∀ k, k < ops.size → ∀ j, ((allBefore ops.toList).getD k 0).testBit j = true → j < k := by
  intro k hk j hj
  have hcl : Clo ops (Array.replicate ops.size true) := ⟨by simp, fun i' o' hi' _ e he hb => by
    have hbk := hback
    unfold edgesBack at hbk
    rw [List.all_eq_true] at hbk
    have h4 := hbk (o', i') (List.mem_zipIdx_iff_getElem?.2 (by simpa using hi'))
    simp only [Array.all_eq_true'] at h4
    have h5 : e.on < i' := by simpa [hb] using h4 e he
    have h6 := (Array.getElem?_eq_some_iff.1 hi').1
    have : e.on < ops.size := by omega
    simp [Array.getD_eq_getD_getElem?, this]⟩
  exact (hcl.bits hback k ops[k] (by simp [hk]) (fun e he hb => hcl.clo k _ (by simp [hk]) (by simp [Array.getD_eq_getD_getElem?, hk]) e he hb) j hj).2

section head
variable {ops : Array Oper} {l : List SOp} {h : Nat} {s0 : St} (hD : DrawOK ops l h) (hz0 : s0.lz = none)
  (hrun : ∀ j o, j < h → l[j]? = some o → opRun E cf true l o (hs E cf l s0 j) = some (hs E cf l s0 (j + 1)))

/-- What is so after some of the head's operations. -/
structure HI (E : Env) (cf : CallF) (l : List SOp) (h : Nat) (s0 : St) (p : Nat → Bool) (s : St) : Prop where
  bx : s.bx = s0.bx
  df : (s.df, s.lk) = (s0.df, s0.lk)
  len : s.tm.length = s0.tm.length
  rdN : ∀ t, (∀ i o, i < h → l[i]? = some o → o.dst = some t ∨ o.op.kills = some t → p i = false) → s.rd t = s0.rd t
  rdV : ∀ i o t, i < h → l[i]? = some o → o.dst = some t → p i = true → (∀ k ok, k < h → l[k]? = some ok → ok.op.kills = some t → p k = false) → s.rd t = (hs E cf l s0 (i + 1)).rd t
  rdK : ∀ k o t, k < h → l[k]? = some o → o.op.kills = some t → p k = true → s.rd t = .sv .undef
  lzN : (∀ i o, i < h → l[i]? = some o → lazyOp o.op = true → p i = false) → s.lz = none
  lzV : ∀ i o, i < h → l[i]? = some o → lazyOp o.op = true → p i = true → s.lz = (hs E cf l s0 (i + 1)).lz

/-- What the head's read of what is appended to left. -/
def LzP (E : Env) (cf : CallF) (l : List SOp) (s0 : St) (k : Nat) (o : SOp) : Prop :=
  ∀ d ℓ, (hs E cf l s0 (k + 1)).lz = some (d, ℓ) → o.dst = some d ∧ ∀ t, ℓ = .tmp t → t ∈ o.looks l

theorem HI.step {p : Nat → Bool} {s : St} (hI : HI E cf l h s0 p s) {i : Nat} {o : SOp} (hS : HI E cf l h s0 (fun j => decide (j < i)) (hs E cf l s0 i)) (hD : DrawOK ops l h)
    (hrun : ∀ j o, j < h → l[j]? = some o → opRun E cf true l o (hs E cf l s0 j) = some (hs E cf l s0 (j + 1)))
    (hih : i < h) (ho : l[i]? = some o) (hu : p i = false) (hbits : ∀ j, ((allBefore ops.toList).getD i 0).testBit j = true → p j = true ∧ j < i)
    (hlater : ∀ k, k < h → p k = true → ((allBefore ops.toList).getD k 0).testBit i = true → False) (hLz : ∀ k o, k < h → l[k]? = some o → lazyOp o.op = true → p k = true → LzP E cf l s0 k o) :
    ∃ s2, opRun E cf true l o s = some s2 ∧ HI E cf l h s0 (fun j => p j || decide (j = i)) s2 ∧ (lazyOp o.op = true → LzP E cf l s0 i o) := by
  have hr := hrun i o hih ho
  have hlen : s.tm.length = (hs E cf l s0 i).tm.length := by rw [hI.len, hS.len]
  have hkl : ∀ k ok t, k < h → l[k]? = some ok → ok.op.kills = some t → t ∈ ok.looks l := by
    intro k ok t _ _ hk
    have : t ∈ ok.op.reads := by
      revert hk
      cases ok.op <;> simp only [AOp.kills, reduceCtorEq, false_implies]
      rename_i e k b d x y
      cases x <;> simp only [reduceCtorEq, false_implies, Option.some.injEq]
      rintro rfl
      simp [AOp.reads, Opd.reads]
    simp [SOp.looks, this]
  have halone : ∀ k ok t, k < h → l[k]? = some ok → ok.op.kills = some t → t ∈ o.looks l → k = i := by
    intro k ok t hk hok hkk ht
    rcases ((hD.kill k ok t hk hok hkk).2.2 i o hih ho).2 with e | e
    · exact e
    · exact absurd ht e
  have hlooks : ∀ t ∈ o.looks l, s.rd t = (hs E cf l s0 i).rd t := by
    intro t ht
    by_cases hex : ∃ j oj, j < h ∧ l[j]? = some oj ∧ oj.dst = some t
    · obtain ⟨j, oj, hj, hoj, hdj⟩ := hex
      obtain ⟨b1, b2⟩ := hbits j (hD.looks i j o oj t hih hj ho hoj ht hdj)
      rw [hI.rdV j oj t hj hoj hdj b1 (fun k ok hk hok hkk => by rw [halone k ok t hk hok hkk ht]; exact hu), hS.rdV j oj t hj hoj hdj (by simpa using b2) (fun k ok hk hok hkk => by rw [halone k ok t hk hok hkk ht]; simp)]
    · have hno : ∀ j oj, j < h → l[j]? = some oj → oj.dst ≠ some t := fun j oj h1 h2 h3 => hex ⟨j, oj, h1, h2, h3⟩
      rw [hI.rdN t (fun j oj h1 h2 h3 => by
          rcases h3 with h3 | h3
          · exact absurd h3 (hno j oj h1 h2)
          · rw [halone j oj t h1 h2 h3 ht]; exact hu), hS.rdN t (fun j oj h1 h2 h3 => by
          rcases h3 with h3 | h3
          · exact absurd h3 (hno j oj h1 h2)
          · rw [halone j oj t h1 h2 h3 ht]; simp)]
  have hlz : lazyOp o.op = true → (hs E cf l s0 i).lz = none ∧ s.lz = none := by
    intro hl
    refine ⟨hS.lzN (fun j oj hj hoj hlj => ?_), hI.lzN (fun j oj hj hoj hlj => ?_)⟩
    · have := hD.one i j o oj hih hj ho hoj hl hlj
      subst this; simp
    · have := hD.one i j o oj hih hj ho hoj hl hlj
      subst this; exact hu
  have hkz : o.op.kills ≠ none → o.guard = none ∧ (hs E cf l s0 i).lz = none ∧ s.lz = none := by
    intro hk
    obtain ⟨t, ht⟩ := Option.ne_none_iff_exists'.1 hk
    obtain ⟨k1, k2, k3⟩ := hD.kill i o t hih ho ht
    exact ⟨k1, hS.lzN (fun j oj hj hoj hlj => by rw [(k3 j oj hj hoj).1] at hlj; simp at hlj), hI.lzN (fun j oj hj hoj hlj => by rw [(k3 j oj hj hoj).1] at hlj; simp at hlj)⟩
  obtain ⟨v, r, e1, e2, e3, e4⟩ := opRun_local (s := hs E cf l s0 i) (s' := s) (e := []) (by rw [hI.bx, hS.bx, List.append_nil]) hlen hlooks (hD.head i o hih ho) hr hlz hkz
  have hfne : ∀ (x : St) t, o.op.kills ≠ some t → (x.forgetO o.op.kills).rd t = x.rd t := by
    intro x t hne
    cases hk : o.op.kills with
    | none => rfl
    | some u =>
      have : u ≠ t := fun e => hne (by rw [hk, e])
      simp only [St.forgetO, St.forget, St.rd, List.getD_eq_getElem?_getD, List.getElem?_set, if_neg this]
  have hfeq : ∀ (x : St) t, o.op.kills = some t → (x.forgetO o.op.kills).rd t = .sv .undef := by
    intro x t hk
    rw [hk]
    simp only [St.forgetO, St.forget, St.rd, List.getD_eq_getElem?_getD, List.getElem?_set, if_true]
    split <;> rfl
  refine ⟨_, e2, ?_, fun hl d ℓ hd => ?_⟩
  · obtain ⟨f1, f2, f3⟩ := fin_bx (s.forgetO o.op.kills) o.dst v r
    obtain ⟨f4, f5⟩ := forgetO_bx s o.op.kills
    have f6 := forgetO_len s o.op.kills
    refine ⟨f1.trans (f4.trans hI.bx), f2.trans (f5.trans hI.df), f3.trans (f6.trans hI.len), fun t ht => ?_, fun j oj t hj hoj hdj hpj hnk => ?_, fun k ok t hk hok hkk hpk => ?_, fun hn => ?_, fun j oj hj hoj hlj hpj => ?_⟩
    · have hne : o.dst ≠ some t := fun e => by have := ht i o hih ho (.inl e); simp at this
      have hne2 : o.op.kills ≠ some t := fun e => by have := ht i o hih ho (.inr e); simp at this
      rw [fin_rd_ne _ o.dst v r hne, hfne s t hne2]
      exact hI.rdN t (fun j oj h1 h2 h3 => by have := ht j oj h1 h2 h3; simp only [Bool.or_eq_false_iff] at this; exact this.1)
    · have hne2 : o.op.kills ≠ some t := fun e => by have := hnk i o hih ho e; simp at this
      by_cases hji : j = i
      · subst hji
        rw [ho] at hoj
        obtain rfl := Option.some.inj hoj
        rw [hdj] at e1 ⊢
        rw [e1]
        exact fin_rd_eq _ _ _ _ (by rw [forgetO_len, forgetO_len]; exact hlen.symm)
      · have hne : o.dst ≠ some t := fun e => hji (hD.dst j i oj o t hj hih hoj ho hdj e)
        rw [fin_rd_ne _ o.dst v r hne, hfne s t hne2]
        exact hI.rdV j oj t hj hoj hdj (by simpa [hji] using hpj) (fun k ok h1 h2 h3 => by have := hnk k ok h1 h2 h3; simp only [Bool.or_eq_false_iff] at this; exact this.1)
    · by_cases hki : k = i
      · subst hki
        rw [ho] at hok
        obtain rfl := Option.some.inj hok
        rw [fin_rd_ne _ o.dst v r (hD.kill k o t hk ho hkk).2.1]
        exact hfeq s t hkk
      · have hpk' : p k = true := by simpa [hki] using hpk
        have hne : o.dst ≠ some t := fun e => hlater k hk hpk' (hD.looks k i ok o t hk hih hok ho (hkl k ok t hk hok hkk) e)
        have hne2 : o.op.kills ≠ some t := fun e => hki (halone k ok t hk hok hkk (hkl i o t hih ho e))
        rw [fin_rd_ne _ o.dst v r hne, hfne s t hne2]
        exact hI.rdK k ok t hk hok hkk hpk'
    · have hlo : lazyOp o.op = false := by
        cases hl : lazyOp o.op with
        | false => rfl
        | true => have := hn i o hih ho hl; simp at this
      rw [e3 hlo]
      exact fin_lz_none _ o.dst v ((forgetO_lz s _).trans (hI.lzN (fun j oj h1 h2 h3 => by have := hn j oj h1 h2 h3; simp only [Bool.or_eq_false_iff] at this; exact this.1)))
    · by_cases hji : j = i
      · subst hji
        rw [ho] at hoj
        obtain rfl := Option.some.inj hoj
        obtain ⟨x, hx, _⟩ := e4 hlj
        rw [e1, hx]
        rfl
      · have hpj' : p j = true := by simpa [hji] using hpj
        have hlo : lazyOp o.op = false := by
          cases hl : lazyOp o.op with
          | false => rfl
          | true => exact absurd (hD.one j i oj o hj hih hoj ho hlj hl) hji
        have hsl := hI.lzV j oj hj hoj hlj hpj'
        rw [e3 hlo, fin_lz_keep (s.forgetO o.op.kills) o.dst v (fun d' ℓ hd => ?_)]
        · exact (forgetO_lz s _).trans hsl
        · rw [forgetO_lz, hsl] at hd
          obtain ⟨g1, g2⟩ := hLz j oj hj hoj hlj hpj' d' ℓ hd
          refine ⟨fun e => hji (hD.dst j i oj o d' hj hih hoj ho g1 e), fun t ht e => ?_⟩
          exact hlater j hj hpj' (hD.looks j i oj o t hj hih hoj ho (g2 t ht) e)
  · obtain ⟨x, hx, hx2⟩ := e4 hl
    rw [e1, hx] at hd
    exact hx2 d ℓ hd

include hD hz0 hrun in
/-- The text's order is one of the orders. -/
theorem hs_HI : ∀ i, i ≤ h → HI E cf l h s0 (fun j => decide (j < i)) (hs E cf l s0 i) ∧ ∀ k o, k < i → l[k]? = some o → lazyOp o.op = true → LzP E cf l s0 k o
  | 0, _ => ⟨⟨rfl, rfl, rfl, fun _ _ => rfl, fun i o t _ _ _ h => by simp at h, fun i o t _ _ _ h => by simp at h, fun _ => hz0, fun i o _ _ _ h => by simp at h⟩, fun k o h => by omega⟩
  | i + 1, hi => by
    have hih : i < h := by omega
    have hil : i < l.length := by have := hD.hle; omega
    have ho : l[i]? = some l[i] := by simp [hil]
    obtain ⟨hI, hLz⟩ := hs_HI i (by omega)
    have hedge := bits_lt hD.back
    have hios : i < ops.size := by rw [← hD.len]; exact hil
    obtain ⟨s2, h1, h2, h3⟩ := HI.step (p := fun j => decide (j < i)) (s := hs E cf l s0 i) hI hI hD hrun hih ho (by simp) (fun j hj => ⟨by simpa using hedge i hios j hj, hedge i hios j hj⟩) (fun k hk hp hb => by
        have : k < i := by simpa using hp
        have := hedge k (by omega) i hb
        omega) (fun k o hk hok hlk hp => hLz k o (by simpa using hp) hok hlk)
    have h4 := hrun i _ hih ho
    rw [h4] at h1
    obtain rfl := Option.some.inj h1
    have hp : (fun j => decide (j < i) || decide (j = i)) = fun j => decide (j < i + 1) := by
      funext j
      by_cases hj : j < i
      · simp [hj]; omega
      · by_cases hj2 : j = i
        · simp [hj2]
        · simp [hj, hj2]; omega
    rw [hp] at h2
    refine ⟨h2, fun k o hk hok hlk => ?_⟩
    by_cases hki : k = i
    · subst hki
      rw [ho] at hok
      obtain rfl := Option.some.inj hok
      exact h3 hlk
    · exact hLz k o (by omega) hok hlk

end head

end Go.Ev

set_option linter.unusedSimpArgs false
set_option linter.unusedVariables false
namespace Go.Ev
variable {P : Program} {E : Env} {γ : Gh} {a : Act} {w : World} {s : St} {cf : CallF} {q : Bool} {s1 : St} {av : AV}

def unl (listed : Array Bool) : Nat := listed.toList.countP (fun b => !b)

theorem unl_set {listed : Array Bool} {i : Nat} (hi : i < listed.size) (hu : listed.getD i false = false) : unl (listed.setIfInBounds i true) + 1 = unl listed := by
  have hg : listed.toList[i]'(by simpa using hi) = false := by
    simp [Array.getD_eq_getD_getElem?, hi] at hu
    simpa using hu
  unfold unl
  rw [Array.toList_setIfInBounds, List.countP_set (by simpa using hi), hg]
  have : 0 < List.countP (fun b => !b) listed.toList := by
    rw [List.countP_pos_iff]
    exact ⟨false, by rw [← hg]; exact List.getElem_mem _, rfl⟩
  simp only [Bool.not_false, if_true, Bool.not_true, Bool.false_eq_true, if_false]
  omega

theorem unl_zero {listed : Array Bool} (h : unl listed = 0) : ∀ i, i < listed.size → listed.getD i false = true := by
  intro i hi
  unfold unl at h
  rw [List.countP_eq_zero] at h
  have := h listed[i] (by simp)
  simp [Array.getD_eq_getD_getElem?, hi]
  simpa using this

theorem set_p {listed : Array Bool} {i : Nat} (hi : i < listed.size) : (fun j => (listed.setIfInBounds i true).getD j false) = fun j => listed.getD j false || decide (j = i) := by
  funext j
  by_cases hij : i = j
  · subst hij; simp [Array.getD_eq_getD_getElem?, hi]
  · rw [getD_set_ne false hij]; simp [Ne.symm hij]

theorem st_ext {s s' : St} (hlen : s.tm.length = s'.tm.length) (hrd : ∀ t, s.rd t = s'.rd t) (hl : s.lz = s'.lz) (hb : s.bx = s'.bx) (hd : (s.df, s.lk) = (s'.df, s'.lk)) : s = s' := by
  have htm : s.tm = s'.tm := by
    apply List.ext_getElem hlen
    intro t h1 h2
    have := hrd t
    simpa [St.rd, List.getD_eq_getElem?_getD, h1, h2] using this
  cases s; cases s'; simp_all

theorem HI.full {l : List SOp} {h : Nat} {s0 s2 : St} {p : Nat → Bool} (g2 : HI E cf l h s0 p s2) (hH : HI E cf l h s0 (fun j => decide (j < h)) (hs E cf l s0 h)) (hallh : ∀ j, j < h → p j = true) : s2 = hs E cf l s0 h := by
  refine st_ext (by rw [g2.len, hH.len]) (fun t => ?_) ?_ (by rw [g2.bx, hH.bx]) (by rw [g2.df, hH.df])
  · by_cases hkx : ∃ k ok, k < h ∧ l[k]? = some ok ∧ ok.op.kills = some t
    · obtain ⟨k, ok, hk, hok, hkk⟩ := hkx
      rw [g2.rdK k ok t hk hok hkk (hallh k hk), hH.rdK k ok t hk hok hkk (by simpa using hk)]
    by_cases hdx : ∃ j oj, j < h ∧ l[j]? = some oj ∧ oj.dst = some t
    · obtain ⟨j, oj, hj, hoj, hdj⟩ := hdx
      rw [g2.rdV j oj t hj hoj hdj (hallh j hj) (fun k ok h1 h2 h3 => absurd ⟨k, ok, h1, h2, h3⟩ hkx), hH.rdV j oj t hj hoj hdj (by simpa using hj) (fun k ok h1 h2 h3 => absurd ⟨k, ok, h1, h2, h3⟩ hkx)]
    · rw [g2.rdN t (fun j oj h1 h2 h3 => h3.elim (fun h3 => absurd ⟨j, oj, h1, h2, h3⟩ hdx) (fun h3 => absurd ⟨j, oj, h1, h2, h3⟩ hkx)), hH.rdN t (fun j oj h1 h2 h3 => h3.elim (fun h3 => absurd ⟨j, oj, h1, h2, h3⟩ hdx) (fun h3 => absurd ⟨j, oj, h1, h2, h3⟩ hkx))]
  · by_cases hlx : ∃ j oj, j < h ∧ l[j]? = some oj ∧ lazyOp oj.op = true
    · obtain ⟨j, oj, hj, hoj, hlj⟩ := hlx
      rw [g2.lzV j oj hj hoj hlj (hallh j hj), hH.lzV j oj hj hoj hlj (by simpa using hj)]
    · rw [g2.lzN (fun j oj h1 h2 h3 => absurd ⟨j, oj, h1, h2, h3⟩ hlx), hH.lzN (fun j oj h1 h2 h3 => absurd ⟨j, oj, h1, h2, h3⟩ hlx)]

theorem HI.congr {l : List SOp} {h : Nat} {s0 t : St} {p p' : Nat → Bool} (hp : ∀ i, i < h → p' i = p i) (g : HI E cf l h s0 p t) : HI E cf l h s0 p' t := by
  refine ⟨g.bx, g.df, g.len, fun u hu => g.rdN u (fun i o h1 h2 h3 => by rw [← hp i h1]; exact hu i o h1 h2 h3), fun i o u h1 h2 h3 h4 h5 => g.rdV i o u h1 h2 h3 (by rw [← hp i h1]; exact h4) (fun k ok k1 k2 k3 => by rw [← hp k k1]; exact h5 k ok k1 k2 k3), fun k o u h1 h2 h3 h4 => g.rdK k o u h1 h2 h3 (by rw [← hp k h1]; exact h4), fun hn => g.lzN (fun i o h1 h2 h3 => by rw [← hp i h1]; exact hn i o h1 h2 h3), fun i o h1 h2 h3 h4 => g.lzV i o h1 h2 h3 (by rw [← hp i h1]; exact h4)⟩

/-- With the new variable made. -/
def addN (n d : Nat) (z : List SV) (t : St) : St := { (t.put (some d) (.ptr n 0)) with bx := t.bx ++ [.live (z.map .sv)] }

theorem opRun_new {l : List SOp} {n d : Nat} {z : List SV} {t : St} (hn : t.bx.length = n) : opRun E cf false l { dst := some d, op := .new z, guard := none } t = some (addN n d z t) := by
  subst hn
  rfl

theorem rd_setL (s : St) (t u : Nat) (v : AV) : ({ s with tm := s.tm.set t v } : St).rd u = if u = t ∧ t < s.tm.length then v else s.rd u := by
  simp only [St.rd, List.getD_eq_getElem?_getD, List.getElem?_set]
  by_cases h : t = u
  · subst h
    by_cases hl : t < s.tm.length
    · simp [hl]
    · simp [hl]
  · rw [if_neg h, if_neg (fun e => h e.1.symm)]

theorem addN_comm {n d : Nat} {z : List SV} {t : St} {k : Option Nat} {dst : Option Nat} {v : AV} (hk : k ≠ some d) (hd : dst ≠ some d) (hz : t.lz = none) : fin ((addN n d z t).forgetO k) dst v none = addN n d z (fin (t.forgetO k) dst v none) := by
  cases k with
  | none =>
    cases dst with
    | none => rfl
    | some x =>
      have hx : x ≠ d := fun e => hd (by rw [e])
      simp only [fin, addN, St.put, St.set, St.forgetO, hz, clearTmp]
      rw [List.set_comm _ _ (fun e => hx e.symm)]
  | some y =>
    have hy : y ≠ d := fun e => hk (by rw [e])
    cases dst with
    | none =>
      simp only [fin, addN, St.put, St.set, St.forgetO, St.forget, hz, clearTmp]
      rw [List.set_comm _ _ (fun e => hy e.symm)]
    | some x =>
      have hx : x ≠ d := fun e => hd (by rw [e])
      simp only [fin, addN, St.put, St.set, St.forgetO, St.forget, hz, clearTmp]
      congr 1
      rw [List.set_comm _ _ (fun e => hy e.symm), List.set_comm (l := (t.tm.set y _)) _ _ (fun e => hx e.symm)]

theorem opRun_addN {ops : Array Oper} {l : List SOp} {g n d : Nat} {z : List SV} {i : Nat} {o : SOp} (hD : DrawOK ops l g) (hN : NewOK l g d z) (hi : i < g) (ho : l[i]? = some o) {t t2 : St} (hz : t.lz = none) (h : opRun E cf true l o t = some t2) :
    opRun E cf true l o (addN n d z t) = some (addN n d z t2) := by
  have hlo := hN.lazy i o hi ho
  have hdn := hN.dst i o hi ho
  have hkn := hN.kill i o hi ho
  have hzz : (addN n d z t).lz = none := by simp only [addN, St.put, St.set, hz, clearTmp]
  have hrd : ∀ u ∈ o.looks l, (addN n d z t).rd u = t.rd u := by
    intro u hu
    have hne : u ≠ d := fun e => hN.looks i o hi ho (e ▸ hu)
    show ({ t with tm := t.tm.set d (.ptr n 0) } : St).rd u = _
    rw [rd_setL, if_neg (fun e => hne e.1)]
  obtain ⟨v, r, e1, e2, e3, _⟩ := opRun_local (s := t) (s' := addN n d z t) (e := [.live (z.map .sv)]) rfl (by simp [addN, St.put, St.set]) hrd (hD.head i o hi ho) h (fun hl => by rw [hlo] at hl; simp at hl) (fun hk => by
    obtain ⟨u, hu⟩ := Option.ne_none_iff_exists'.1 hk
    exact ⟨(hD.kill i o u hi ho hu).1, hz, hzz⟩)
  rw [e2, e1, e3 hlo, addN_comm hkn hdn hz]

section
variable {ops : Array Oper} {l : List SOp} {h : Nat} {s0 sF : St} {Q : Exit → Act → World → Prop} {γ0 : Gh} {w0 : World}

theorem any_ok (hP : PureOK P E) (hC : CfOK P E cf) (hl : allSome (ops.toList.map (cOper P ops)) = some l) (hD : DrawOK ops l h) (hT : tailFrom (allBefore ops.toList) = h) (hz0 : s0.lz = none)
    (hrun : ∀ j o, j < h → l[j]? = some o → opRun E cf true l o (hs E cf l s0 j) = some (hs E cf l s0 (j + 1))) (htail : runOps E cf false l (l.drop h) (hs E cf l s0 h) = some sF)
    (hQ : ∀ γ' a' w', Ext γ0 w0 γ' w' → R P γ' a' w' sF → Q .normal a' w') :
    ∀ (fuel : Nat) (listed : Array Bool) (γ : Gh) (a : Act) (w : World) (s : St), Clo ops listed → unl listed = fuel → R P γ a w s → GlobOK E γ → Ext γ0 w0 γ w →
      (((∃ i, i < h ∧ listed.getD i false = false) ∧ HI E cf l h s0 (fun j => listed.getD j false) s) ∨ ∃ k, h ≤ k ∧ (∀ i, i < ops.size → (listed.getD i false = true ↔ i < k)) ∧ runOps E cf false l (l.drop k) s = some sF) →
      wpAny P .any ops Q fuel listed a w := by
  have hall := hs_HI hD hz0 hrun
  have hend : ∀ (listed : Array Bool) (γ : Gh) (a : Act) (w : World) (s : St), Clo ops listed → R P γ a w s → Ext γ0 w0 γ w →
      (((∃ i, i < h ∧ listed.getD i false = false) ∧ HI E cf l h s0 (fun j => listed.getD j false) s) ∨ ∃ k, h ≤ k ∧ (∀ i, i < ops.size → (listed.getD i false = true ↔ i < k)) ∧ runOps E cf false l (l.drop k) s = some sF) →
      Region.ready .any ops listed = [] → Q .normal a w := by
    intro listed γ a w s hclo hR hE hor hnil
    rcases hor with ⟨hex, _⟩ | ⟨k, hk, hlist, hr⟩
    · obtain ⟨i, h1, h2, h3⟩ := first_un (p := fun j => listed.getD j false) hex
      have := first_ready hD.back hclo (i := i) (by have := hD.hle; have := hD.len; omega) h2 h3
      rw [hnil] at this; simp at this
    · have hks : ops.size ≤ k := by
        refine Decidable.byContradiction fun hn => ?_
        have hkl : k < ops.size := by omega
        have hu : listed.getD k false = false := by
          cases hx : listed.getD k false with
          | false => rfl
          | true => have := (hlist k hkl).1 hx; omega
        have := first_ready hD.back hclo hkl hu (fun j hj => (hlist j (by omega)).2 hj)
        rw [hnil] at this; simp at this
      rw [List.drop_eq_nil_of_le (by rw [hD.len]; exact hks)] at hr
      simp only [runOps, Option.some.injEq] at hr
      subst hr
      exact hQ γ a w hE hR
  intro fuel
  induction fuel with
  | zero =>
    intro listed γ a w s hclo hun hR hG hE hor
    have hz := unl_zero hun
    have hnil : Region.ready .any ops listed = [] := by
      cases hr : Region.ready .any ops listed with
      | nil => rfl
      | cons x xs =>
        have hx : x ∈ Region.ready .any ops listed := by rw [hr]; simp
        obtain ⟨h1, o, ho, _⟩ := mem_ready.1 hx
        have hxs := (Array.getElem?_eq_some_iff.1 ho).1
        have := hz x (by rw [hclo.size]; exact hxs)
        rw [getD_tf (by rw [hclo.size]; exact hxs), this] at h1
        simp at h1
    exact ⟨hnil, hend listed γ a w s hclo hR hE hor hnil⟩
  | succ fuel ih =>
    intro listed γ a w s hclo hun hR hG hE hor
    refine ⟨hend listed γ a w s hclo hR hE hor, fun i hi => ?_⟩
    obtain ⟨hu0, oi, hoi, hedges⟩ := mem_ready.1 hi
    have his := (Array.getElem?_eq_some_iff.1 hoi).1
    have hu : listed.getD i false = false := by rw [← getD_tf (by rw [hclo.size]; exact his)]; exact hu0
    have hbits := hclo.bits hD.back i oi hoi hedges
    have hun' : unl (listed.setIfInBounds i true) = fuel := by have := unl_set (by rw [hclo.size]; exact his) hu; omega
    have hclo' := hclo.set hi
    obtain ⟨so, hso, _⟩ := (all_get hl).2 i oi hoi
    have hset := set_p (listed := listed) (i := i) (by rw [hclo.size]; exact his)
    have hlb : ∀ k, k < ops.size → listed.getD k false = true → ∀ j, ((allBefore ops.toList).getD k 0).testBit j = true → listed.getD j false = true := fun k hk hlk j hj =>
      (hclo.bits hD.back k ops[k] (by simp [hk]) (fun e he hb => hclo.clo k _ (by simp [hk]) hlk e he hb) j hj).1
    rcases hor with ⟨⟨i0, hi0, hu1⟩, hI⟩ | ⟨k, hk, hlist, hr⟩
    · have hih : i < h := by
        refine Decidable.byContradiction fun hn => ?_
        have := (hbits i0 (tail_bits his (by rw [hT]; omega) i0 (by omega))).1
        rw [hu1] at this; simp at this
      obtain ⟨s2, g1, g2, _⟩ := HI.step hI (hall i (by omega)).1 hD hrun hih hso hu hbits (fun k hk hp hb => by
        have := hlb k (by have := hD.hle; have := hD.len; omega) hp i hb
        rw [hu] at this; simp at this) (fun k o hk hok hlk _ => (hall h (Nat.le_refl _)).2 k o hk hok hlk)
      refine opRun_ok hP hC hR hG hl hso g1 (fun γ' a' w' he hR' => ih _ γ' a' w' s2 hclo' hun' hR' (hG.mono he.F) (hE.trans he) ?_)
      rw [← hset] at g2
      by_cases hex : ∃ j, j < h ∧ (listed.setIfInBounds i true).getD j false = false
      · exact .inl ⟨hex, g2⟩
      · right
        have hallh : ∀ j, j < h → (listed.setIfInBounds i true).getD j false = true := fun j hj => by
          cases hx : (listed.setIfInBounds i true).getD j false with
          | true => rfl
          | false => exact absurd ⟨j, hj, hx⟩ hex
        have hsH : s2 = hs E cf l s0 h := g2.full (hall h (Nat.le_refl _)).1 hallh
        refine ⟨h, Nat.le_refl _, fun j hj => ⟨fun hlj => ?_, fun hjh => hallh j hjh⟩, by rw [hsH]; exact htail⟩
        refine Decidable.byContradiction fun hn => ?_
        have hji : i ≠ j := by omega
        rw [getD_set_ne false hji] at hlj
        have := hlb j hj hlj i (tail_bits hj (by rw [hT]; omega) i (by omega))
        rw [hu] at this; simp at this
    · have hik : i = k := by
        have h1 : ¬ i < k := fun hlt => by have := (hlist i his).2 hlt; rw [hu] at this; simp at this
        refine Decidable.byContradiction fun hn => ?_
        have hkl : k < i := by omega
        have := (hbits k (tail_bits his (by rw [hT]; omega) k hkl)).1
        have := (hlist k (by omega)).1 this
        omega
      subst hik
      rw [drop_cons hso] at hr
      simp only [runOps] at hr
      split at hr <;> try (simp at hr; done)
      rename_i s2 hs2
      refine opRun_ok hP hC hR hG hl hso hs2 (fun γ' a' w' he hR' => ih _ γ' a' w' s2 hclo' hun' hR' (hG.mono he.F) (hE.trans he) (.inr ⟨i + 1, by omega, fun j hj => ?_, hr⟩))
      have hb : (listed.setIfInBounds i true).getD j false = (listed.getD j false || decide (j = i)) := congrFun hset j
      rw [hb]
      have := hlist j hj
      by_cases hji : j = i
      · subst hji; simp
      · simp only [hji, decide_false, Bool.or_false]
        rw [this]; omega

theorem any_ok2 (hP : PureOK P E) (hC : CfOK P E cf) (hl : allSome (ops.toList.map (cOper P ops)) = some l) (hD : DrawOK ops l h) {d : Nat} {z : List SV} (hN : NewOK l h d z) (hT : tailFrom (allBefore ops.toList) = h + 1) (hz0 : s0.lz = none)
    (hrun : ∀ j o, j < h → l[j]? = some o → opRun E cf true l o (hs E cf l s0 j) = some (hs E cf l s0 (j + 1))) (htail : runOps E cf false l (l.drop h) (hs E cf l s0 h) = some sF)
    (hQ : ∀ γ' a' w', Ext γ0 w0 γ' w' → R P γ' a' w' sF → Q .normal a' w') :
    ∀ (fuel : Nat) (listed : Array Bool) (γ : Gh) (a : Act) (w : World) (s : St), Clo ops listed → unl listed = fuel → R P γ a w s → GlobOK E γ → Ext γ0 w0 γ w →
      ((∃ t, (∃ i, i < h + 1 ∧ listed.getD i false = false) ∧ HI E cf l h s0 (fun j => listed.getD j false) t ∧ s = if listed.getD h false = true then addN s0.bx.length d z t else t) ∨ ∃ k, h + 1 ≤ k ∧ (∀ i, i < ops.size → (listed.getD i false = true ↔ i < k)) ∧ runOps E cf false l (l.drop k) s = some sF) →
      wpAny P .any ops Q fuel listed a w := by
  have hall := hs_HI hD hz0 hrun
  have hlt : h < ops.size := by rw [← hD.len]; exact (List.getElem?_eq_some_iff.1 hN.op).1
  have htail' : runOps E cf false l (l.drop (h + 1)) (addN s0.bx.length d z (hs E cf l s0 h)) = some sF := by
    rw [drop_cons hN.op] at htail
    simp only [runOps, opRun_new (E := E) (cf := cf) (l := l) (d := d) (z := z) (show (hs E cf l s0 h).bx.length = s0.bx.length by rw [(hall h (Nat.le_refl _)).1.bx])] at htail
    exact htail
  have hend : ∀ (listed : Array Bool) (γ : Gh) (a : Act) (w : World) (s : St), Clo ops listed → R P γ a w s → Ext γ0 w0 γ w →
      ((∃ t, (∃ i, i < h + 1 ∧ listed.getD i false = false) ∧ HI E cf l h s0 (fun j => listed.getD j false) t ∧ s = if listed.getD h false = true then addN s0.bx.length d z t else t) ∨ ∃ k, h + 1 ≤ k ∧ (∀ i, i < ops.size → (listed.getD i false = true ↔ i < k)) ∧ runOps E cf false l (l.drop k) s = some sF) →
      Region.ready .any ops listed = [] → Q .normal a w := by
    intro listed γ a w s hclo hR hE hor hnil
    rcases hor with ⟨_, hex, _⟩ | ⟨k, hk, hlist, hr⟩
    · obtain ⟨i, h1, h2, h3⟩ := first_un (p := fun j => listed.getD j false) hex
      have := first_ready hD.back hclo (i := i) (by omega) h2 h3
      rw [hnil] at this; simp at this
    · have hks : ops.size ≤ k := by
        refine Decidable.byContradiction fun hn => ?_
        have hkl : k < ops.size := by omega
        have hu : listed.getD k false = false := by
          cases hx : listed.getD k false with
          | false => rfl
          | true => have := (hlist k hkl).1 hx; omega
        have := first_ready hD.back hclo hkl hu (fun j hj => (hlist j (by omega)).2 hj)
        rw [hnil] at this; simp at this
      rw [List.drop_eq_nil_of_le (by rw [hD.len]; exact hks)] at hr
      simp only [runOps, Option.some.injEq] at hr
      subst hr
      exact hQ γ a w hE hR
  intro fuel
  induction fuel with
  | zero =>
    intro listed γ a w s hclo hun hR hG hE hor
    have hz := unl_zero hun
    have hnil : Region.ready .any ops listed = [] := by
      cases hr : Region.ready .any ops listed with
      | nil => rfl
      | cons x xs =>
        have hx : x ∈ Region.ready .any ops listed := by rw [hr]; simp
        obtain ⟨h1, o, ho, _⟩ := mem_ready.1 hx
        have hxs := (Array.getElem?_eq_some_iff.1 ho).1
        have := hz x (by rw [hclo.size]; exact hxs)
        rw [getD_tf (by rw [hclo.size]; exact hxs), this] at h1
        simp at h1
    exact ⟨hnil, hend listed γ a w s hclo hR hE hor hnil⟩
  | succ fuel ih =>
    intro listed γ a w s hclo hun hR hG hE hor
    refine ⟨hend listed γ a w s hclo hR hE hor, fun i hi => ?_⟩
    obtain ⟨hu0, oi, hoi, hedges⟩ := mem_ready.1 hi
    have his := (Array.getElem?_eq_some_iff.1 hoi).1
    have hu : listed.getD i false = false := by rw [← getD_tf (by rw [hclo.size]; exact his)]; exact hu0
    have hbits := hclo.bits hD.back i oi hoi hedges
    have hun' : unl (listed.setIfInBounds i true) = fuel := by have := unl_set (by rw [hclo.size]; exact his) hu; omega
    have hclo' := hclo.set hi
    obtain ⟨so, hso, _⟩ := (all_get hl).2 i oi hoi
    have hset := set_p (listed := listed) (i := i) (by rw [hclo.size]; exact his)
    have hlb : ∀ k, k < ops.size → listed.getD k false = true → ∀ j, ((allBefore ops.toList).getD k 0).testBit j = true → listed.getD j false = true := fun k hk hlk j hj =>
      (hclo.bits hD.back k ops[k] (by simp [hk]) (fun e he hb => hclo.clo k _ (by simp [hk]) hlk e he hb) j hj).1
    have hdone : ∀ t2 s2, HI E cf l h s0 (fun j => (listed.setIfInBounds i true).getD j false) t2 → i < h + 1 → (s2 = if (listed.setIfInBounds i true).getD h false = true then addN s0.bx.length d z t2 else t2) →
        (∃ t, (∃ i', i' < h + 1 ∧ (listed.setIfInBounds i true).getD i' false = false) ∧ HI E cf l h s0 (fun j => (listed.setIfInBounds i true).getD j false) t ∧ s2 = if (listed.setIfInBounds i true).getD h false = true then addN s0.bx.length d z t else t) ∨ ∃ k, h + 1 ≤ k ∧ (∀ i', i' < ops.size → ((listed.setIfInBounds i true).getD i' false = true ↔ i' < k)) ∧ runOps E cf false l (l.drop k) s2 = some sF := by
      intro t2 s2 hI2 hih hs2
      by_cases hex : ∃ j, j < h + 1 ∧ (listed.setIfInBounds i true).getD j false = false
      · exact .inl ⟨t2, hex, hI2, hs2⟩
      · right
        have hallh : ∀ j, j < h + 1 → (listed.setIfInBounds i true).getD j false = true := fun j hj => by
          cases hx : (listed.setIfInBounds i true).getD j false with
          | true => rfl
          | false => exact absurd ⟨j, hj, hx⟩ hex
        have hsH : t2 = hs E cf l s0 h := hI2.full (hall h (Nat.le_refl _)).1 (fun j hj => hallh j (by omega))
        rw [hallh h (by omega), if_pos rfl, hsH] at hs2
        refine ⟨h + 1, Nat.le_refl _, fun j hj => ⟨fun hlj => ?_, fun hjh => hallh j hjh⟩, by rw [hs2]; exact htail'⟩
        refine Decidable.byContradiction fun hn => ?_
        have hji : i ≠ j := by omega
        rw [getD_set_ne false hji] at hlj
        have := hlb j hj hlj i (tail_bits hj (by rw [hT]; omega) i (by omega))
        rw [hu] at this; simp at this
    rcases hor with ⟨t, ⟨i0, hi0, hu1⟩, hI, hst⟩ | ⟨k, hk, hlist, hr⟩
    · have hih : i < h + 1 := by
        refine Decidable.byContradiction fun hn => ?_
        have := (hbits i0 (tail_bits his (by rw [hT]; omega) i0 (by omega))).1
        rw [hu1] at this; simp at this
      have hlzt : t.lz = none := hI.lzN (fun j oj hj hoj hlj => by rw [hN.lazy j oj hj hoj] at hlj; simp at hlj)
      by_cases hieq : i = h
      · subst hieq
        rw [hN.op] at hso
        obtain rfl := Option.some.inj hso
        rw [hu, if_neg (by simp)] at hst
        subst hst
        have hself : (listed.setIfInBounds i true).getD i false = true := by simp [Array.getD_eq_getD_getElem?, hclo.size, his]
        refine opRun_ok hP hC hR hG hl hN.op (opRun_new (n := s0.bx.length) (by rw [hI.bx])) (fun γ' a' w' he hR' => ih _ γ' a' w' _ hclo' hun' hR' (hG.mono he.F) (hE.trans he) (hdone s _ (hI.congr (fun j hj => ?_)) hih ?_))
        · rw [getD_set_ne false (by omega)]
        · rw [if_pos hself]
      · have hih' : i < h := by omega
        obtain ⟨s2, g1, g2, _⟩ := HI.step hI (hall i (by omega)).1 hD hrun hih' hso hu hbits (fun k hk hp hb => by
          have := hlb k (by omega) hp i hb
          rw [hu] at this; simp at this) (fun k o hk hok hlk _ => (hall h (Nat.le_refl _)).2 k o hk hok hlk)
        rw [← hset] at g2
        have hgh : (listed.setIfInBounds i true).getD h false = listed.getD h false := getD_set_ne false hieq
        by_cases hnd : listed.getD h false = true
        · rw [if_pos hnd] at hst
          subst hst
          refine opRun_ok hP hC hR hG hl hso (opRun_addN hD hN hih' hso hlzt g1) (fun γ' a' w' he hR' => ih _ γ' a' w' _ hclo' hun' hR' (hG.mono he.F) (hE.trans he) (hdone s2 _ g2 hih ?_))
          rw [hgh, if_pos hnd]
        · rw [if_neg hnd] at hst
          subst hst
          refine opRun_ok hP hC hR hG hl hso g1 (fun γ' a' w' he hR' => ih _ γ' a' w' _ hclo' hun' hR' (hG.mono he.F) (hE.trans he) (hdone s2 _ g2 hih ?_))
          rw [hgh, if_neg hnd]
    · have hik : i = k := by
        have h1 : ¬ i < k := fun hlt => by have := (hlist i his).2 hlt; rw [hu] at this; simp at this
        refine Decidable.byContradiction fun hn => ?_
        have hkl : k < i := by omega
        have := (hbits k (tail_bits his (by rw [hT]; omega) k hkl)).1
        have := (hlist k (by omega)).1 this
        omega
      subst hik
      rw [drop_cons hso] at hr
      simp only [runOps] at hr
      split at hr <;> try (simp at hr; done)
      rename_i s2 hs2
      refine opRun_ok hP hC hR hG hl hso hs2 (fun γ' a' w' he hR' => ih _ γ' a' w' s2 hclo' hun' hR' (hG.mono he.F) (hE.trans he) (.inr ⟨i + 1, by omega, fun j hj => ?_, hr⟩))
      have hb : (listed.setIfInBounds i true).getD j false = (listed.getD j false || decide (j = i)) := congrFun hset j
      rw [hb]
      have := hlist j hj
      by_cases hji : j = i
      · subst hji; simp
      · simp only [hji, decide_false, Bool.or_false]
        rw [this]; omega

theorem region_draw (hm : P.follows .mixedOrders = true) (hP : PureOK P E) (hC : CfOK P E cf) (hR : R P γ a w s) (hG : GlobOK E γ) (hz : s.lz = none) {id : Nat} (hl : allSome (ops.toList.map (cOper P ops)) = some l) (hd : drawHead ops l = some h) {sH : St}
    (h1 : runOps E cf true l (l.take h) s = some sH) (h2 : runOps E cf false l (l.drop h) sH = some sF) (hQ : ∀ γ' a' w', Ext γ w γ' w' → R P γ' a' w' sF → Q .normal a' w') : (Code.region id ops true).wp P Q a w := by
  obtain ⟨hD, hkind⟩ := drawOK_of hd
  obtain ⟨k1, k2⟩ := hs_run (E := E) (cf := cf) (l := l) (s0 := s) hD.hle h 0 (by omega) (by show runOps E cf true l ((l.drop 0).take h) s = _; rw [List.drop_zero]; exact h1)
  have hrun : ∀ j o, j < h → l[j]? = some o → opRun E cf true l o (hs E cf l s j) = some (hs E cf l s (j + 1)) := fun j o hj ho => k1 j o (by omega) hj ho
  refine wp_region_any hm ?_
  have hR' : R P γ a { w with drawn := w.drawn + 1 } s := by
    have hf : Fresh γ w γ { w with drawn := w.drawn + 1 } := ⟨rfl, rfl, rfl, Nat.le_refl _, fun _ _ => rfl, fun _ _ _ h => h, fun _ _ _ _ h => h, hR.bx.Fw, rfl, fun _ _ => rfl, fun b ℓ hl ho => by have := (hR.bx.ow b ℓ ho).1; omega⟩
    exact hf.R hR
  have hE : Ext γ w γ { w with drawn := w.drawn + 1 } := ⟨rfl, rfl, rfl, Nat.le_refl _, fun _ _ _ h => h, ⟨[], by simp, by simp⟩, fun _ _ => rfl, fun _ _ _ _ h => h, fun _ h => h.2.2⟩
  have hgf : ∀ j, (Array.replicate ops.size false).getD j false = false := fun j => by
    simp only [Array.getD_eq_getD_getElem?, Array.getElem?_replicate]
    split <;> rfl
  have hclo0 : Clo ops (Array.replicate ops.size false) := ⟨by simp, fun i o _ hli => by rw [hgf] at hli; simp at hli⟩
  have hun0 : unl (Array.replicate ops.size false) = ops.size := by
    unfold unl
    rw [Array.toList_replicate, List.countP_replicate]
    rfl
  have hHI0 : HI E cf l h s (fun j => (Array.replicate ops.size false).getD j false) s := by
    have := (hs_HI hD hz hrun 0 (by omega)).1
    have hp : (fun j => (Array.replicate ops.size false).getD j false) = fun j => decide (j < 0) := by funext j; rw [hgf j]; simp
    rw [hp]; exact this
  rcases hkind with hT | ⟨hT, d, z, hN⟩
  · refine any_ok hP hC hl hD hT hz hrun (by rw [k2]; exact h2) hQ ops.size _ γ a _ s hclo0 hun0 hR' hG hE ?_
    by_cases hh : 0 < h
    · exact .inl ⟨⟨0, hh, hgf 0⟩, hHI0⟩
    · right
      have h0 : h = 0 := by omega
      subst h0
      refine ⟨0, Nat.le_refl _, fun i hi => ⟨fun hx => by rw [hgf] at hx; simp at hx, fun hx => by omega⟩, ?_⟩
      rw [← k2] at h2
      exact h2
  · refine any_ok2 hP hC hl hD hN hT hz hrun (by rw [k2]; exact h2) hQ ops.size _ γ a _ s hclo0 hun0 hR' hG hE (.inl ⟨s, ⟨0, by omega, hgf 0⟩, hHI0, ?_⟩)
    rw [hgf, if_neg (by simp)]

end
end Go.Ev

set_option linter.unusedSimpArgs false
set_option linter.unusedVariables false
namespace Go.Ev
variable {P : Program} {E : Env} {cf : CallF}

def AExit.to : AExit → Exit
  | .normal => .normal
  | .exit id => .exit id
  | .ret => .ret

/-- What is shown of a code. -/
def CodeOK (P : Program) (E : Env) (cf : CallF) (c : Code) (ev : St → Option (AExit × St)) : Prop :=
  ∀ (γ : Gh) (a : Act) (w : World) (s : St) (e : AExit) (s' : St) (Q : Exit → Act → World → Prop), ev s = some (e, s') → R P γ a w s → GlobOK E γ →
    (∀ γ' a' w', Ext γ w γ' w' → R P γ' a' w' s' → Q e.to a' w') → c.wp P Q a w

theorem rounds_ok {c : Code} {ev : St → Option (AExit × St)} (h : CodeOK P E cf c ev) : ∀ (m : Nat) (γ : Gh) (a : Act) (w : World) (s : St) (e : AExit) (s' : St) (Q : Exit → Act → World → Prop), rounds ev m s = some (e, s') → R P γ a w s → GlobOK E γ →
    (∀ γ' a' w', Ext γ w γ' w' → R P γ' a' w' s' → Q e.to a' w') → Code.rounds P c Q m a w
  | 0, _, _, _, _, _, _, _, hr, _, _, _ => by simp [rounds] at hr
  | m + 1, γ, a, w, s, e, s', Q, hr, hR, hG, hQ => by
    rw [rounds_succ]
    simp only [rounds] at hr
    cases hev : ev s with
    | none => rw [hev] at hr; simp at hr
    | some p =>
      obtain ⟨e1, s1⟩ := p
      rw [hev] at hr
      refine h γ a w s e1 s1 _ hev hR hG (fun γ' a' w' he hR' => ?_)
      cases e1 with
      | normal => exact rounds_ok h m γ' a' w' s1 e s' Q hr hR' (hG.mono he.F) (fun γ2 a2 w2 he2 hR2 => hQ γ2 a2 w2 (he.trans he2) hR2)
      | exit id =>
        simp only [Option.some.injEq, Prod.mk.injEq] at hr
        obtain ⟨rfl, rfl⟩ := hr
        exact hQ γ' a' w' he hR'
      | ret =>
        simp only [Option.some.injEq, Prod.mk.injEq] at hr
        obtain ⟨rfl, rfl⟩ := hr
        exact hQ γ' a' w' he hR'

theorem R.killed {γ : Gh} {a : Act} {w : World} {s : St} (hR : R P γ a w s) (ts : List Nat) : R P γ a w (s.kill ts) := by
  have key : ∀ (ts : List Nat) (l : List AV), l.length = s.tm.length → (∀ t, t < s.tm.length → RepA P γ w (.tmp t) (l.getD t (.sv .undef)) (a.tmps.getD t undef)) →
      (ts.foldl (fun l t => l.set t (.sv .undef)) l).length = s.tm.length ∧ ∀ t, t < s.tm.length → RepA P γ w (.tmp t) ((ts.foldl (fun l t => l.set t (.sv .undef)) l).getD t (.sv .undef)) (a.tmps.getD t undef) := by
    intro ts
    induction ts with
    | nil => intro l h1 h2; exact ⟨h1, h2⟩
    | cons x ts ih =>
      intro l h1 h2
      refine ih (l.set x (.sv .undef)) (by simpa using h1) (fun t ht => ?_)
      simp only [List.getD_eq_getElem?_getD, List.getElem?_set]
      by_cases e : x = t
      · subst e
        rw [if_pos rfl, if_pos (by omega)]
        exact .sv _ _ _ (.undef _)
      · rw [if_neg e]
        have := h2 t ht
        simpa [List.getD_eq_getElem?_getD] using this
  obtain ⟨h1, h2⟩ := key ts s.tm rfl hR.tm
  exact ⟨hR.bx, hR.sz.trans h1.symm, fun t ht => h2 t (by rw [← h1]; exact ht), by simp [St.kill], hR.dl, hR.df⟩

theorem CodeOK.kill {c : Code} {ev : St → Option (AExit × St)} (h : CodeOK P E cf c ev) (ts : List Nat) : CodeOK P E cf c (fun s => ev (s.kill ts)) :=
  fun γ a w s e s' Q hev hR hG hQ => h γ a w (s.kill ts) e s' Q hev (hR.killed ts) hG hQ

theorem CodeOK.withKill {c : Code} {ac : ACode} {n : Nat} (h : CodeOK P E cf c (evC E cf n ac)) (N m : Nat) : CodeOK P E cf c (evC E cf n (withKill N m ac)) := by
  unfold Ev.withKill
  split
  · exact h
  · have := h.kill (bitsOf N m)
    have he : (fun s => evC E cf n ac (s.kill (bitsOf N m))) = evC E cf n (.seq (.kill (bitsOf N m)) ac) := by funext s; rfl
    rw [← he]; exact this

theorem CodeOK.killAfter {c : Code} {ac : ACode} {n : Nat} (h : CodeOK P E cf c (evC E cf n ac)) (ts : List Nat) : CodeOK P E cf c (evC E cf n (.seq ac (.kill ts))) := by
  intro γ a w s e s' Q hev hR hG hQ
  simp only [evC] at hev
  cases h1 : evC E cf n ac s with
  | none => rw [h1] at hev; simp at hev
  | some p =>
    obtain ⟨e1, s1⟩ := p
    rw [h1] at hev
    cases e1 with
    | normal =>
      simp only [Option.some.injEq, Prod.mk.injEq] at hev
      obtain ⟨rfl, rfl⟩ := hev
      exact h γ a w s _ s1 Q h1 hR hG (fun γ' a' w' he hR' => hQ γ' a' w' he (hR'.killed ts))
    | exit id =>
      simp only [Option.some.injEq, Prod.mk.injEq] at hev
      obtain ⟨rfl, rfl⟩ := hev
      exact h γ a w s _ s1 Q h1 hR hG hQ
    | ret =>
      simp only [Option.some.injEq, Prod.mk.injEq] at hev
      obtain ⟨rfl, rfl⟩ := hev
      exact h γ a w s _ s1 Q h1 hR hG hQ

theorem code_ok (hm : P.follows .mixedOrders = true) (hP : PureOK P E) (hC : CfOK P E cf) (n : Nat) : ∀ (c : Code) (ac : ACode), cCode P c = some ac → ∀ (N rt out : Nat) (ex : List (Nat × Nat)), CodeOK P E cf c (evC E cf n (ann N rt ac out ex).1) := by
  intro c
  induction c with
  | skip =>
    intro ac hc N rt out ex γ a w s e s' Q hev hR hG hQ
    simp only [cCode, Option.some.injEq] at hc; subst hc
    simp only [ann, evC, Option.some.injEq, Prod.mk.injEq] at hev
    obtain ⟨rfl, rfl⟩ := hev
    exact wp_skip (hQ γ a w (Ext.refl _ _) hR)
  | label l =>
    intro ac hc N rt out ex γ a w s e s' Q hev hR hG hQ
    simp only [cCode, Option.some.injEq] at hc; subst hc
    simp only [ann, evC, Option.some.injEq, Prod.mk.injEq] at hev
    obtain ⟨rfl, rfl⟩ := hev
    exact wp_label (hQ γ a w (Ext.refl _ _) hR)
  | exit id =>
    intro ac hc N rt out ex γ a w s e s' Q hev hR hG hQ
    simp only [cCode, Option.some.injEq] at hc; subst hc
    simp only [ann, evC, Option.some.injEq, Prod.mk.injEq] at hev
    obtain ⟨rfl, rfl⟩ := hev
    exact wp_exit (hQ γ a w (Ext.refl _ _) hR)
  | ret =>
    intro ac hc N rt out ex γ a w s e s' Q hev hR hG hQ
    simp only [cCode, Option.some.injEq] at hc; subst hc
    simp only [ann, evC, Option.some.injEq, Prod.mk.injEq] at hev
    obtain ⟨rfl, rfl⟩ := hev
    exact wp_ret (hQ γ a w (Ext.refl _ _) hR)
  | region id ops draw =>
    intro ac hc N rt out ex
    simp only [cCode] at hc
    split at hc <;> try (simp at hc; done)
    rename_i l hl
    have hreg : ∀ h, ac = .region h l → CodeOK P E cf (.region id ops draw) (evC E cf n (.region h l)) → CodeOK P E cf (.region id ops draw) (evC E cf n (ann N rt ac out ex).1) := by
      intro h hac hok
      subst hac
      simp only [ann]
      split
      · exact hok
      · exact hok.killAfter _
    split at hc
    · rename_i hdr
      split at hc
      · rename_i h hh
        simp only [Option.some.injEq] at hc; subst hc
        refine hreg h rfl (fun γ a w s e s' Q hev hR hG hQ => ?_)
        have hR0 := hR.noLz
        simp only [evC] at hev
        split at hev <;> try (simp at hev; done)
        rename_i sH h1
        split at hev <;> simp only [Option.some.injEq, Prod.mk.injEq, reduceCtorEq] at hev
        rename_i sF h2
        obtain ⟨rfl, rfl⟩ := hev
        rw [hdr]
        exact region_draw hm hP hC hR0 hG rfl hl hh h1 h2 hQ
      · simp only [Option.some.injEq] at hc; subst hc
        intro γ a w s e s' Q hev; simp [ann, evC] at hev
    · rename_i hdr
      simp only [Option.some.injEq] at hc; subst hc
      refine hreg 0 rfl (fun γ a w s e s' Q hev hR hG hQ => ?_)
      have hR0 := hR.noLz
      simp only [evC, List.take_zero, runOps, List.drop_zero] at hev
      split at hev <;> simp only [Option.some.injEq, Prod.mk.injEq, reduceCtorEq] at hev
      rename_i sF h2
      obtain ⟨rfl, rfl⟩ := hev
      have hd : draw = false := by simpa using hdr
      rw [hd]
      exact region_seq hP hC hR0 hG hl h2 hQ
  | seq x y ihx ihy =>
    intro ac hc N rt out ex
    simp only [cCode] at hc
    split at hc <;> simp only [Option.some.injEq, reduceCtorEq] at hc
    rename_i ax ay hx hy
    subst hc
    intro γ a w s e s' Q hev hR hG hQ
    simp only [ann, evC] at hev
    have ihy' := ihy ay hy N rt out ex
    have ihx' := ihx ax hx N rt (ann N rt ay out ex).2 ex
    refine wp_seq ?_
    cases h1 : evC E cf n (ann N rt ax (ann N rt ay out ex).2 ex).1 s with
    | none => rw [h1] at hev; simp at hev
    | some p =>
      obtain ⟨e1, s1⟩ := p
      rw [h1] at hev
      refine ihx' γ a w s e1 s1 _ h1 hR hG (fun γ' a' w' he hR' => ?_)
      cases e1 with
      | normal => exact ihy' γ' a' w' s1 e s' Q hev hR' (hG.mono he.F) (fun γ2 a2 w2 he2 hR2 => hQ γ2 a2 w2 (he.trans he2) hR2)
      | exit id =>
        simp only [Option.some.injEq, Prod.mk.injEq] at hev
        obtain ⟨rfl, rfl⟩ := hev
        exact hQ γ' a' w' he hR'
      | ret =>
        simp only [Option.some.injEq, Prod.mk.injEq] at hev
        obtain ⟨rfl, rfl⟩ := hev
        exact hQ γ' a' w' he hR'
  | cond c x y ihx ihy =>
    intro ac hc N rt out ex
    simp only [cCode] at hc
    split at hc <;> simp only [Option.some.injEq, reduceCtorEq] at hc
    rename_i ac' ax ay hcc hx hy
    subst hc
    intro γ a w s e s' Q hev hR hG hQ
    simp only [ann, evC] at hev
    split at hev <;> try (simp at hev; done)
    rename_i b hb
    have hv := (ev_rep hR hG hcc).bool hb
    refine wp_cond hv ?_
    cases b with
    | true => simp only [if_true] at hev ⊢; exact (ihx ax hx N rt out ex).withKill _ _ γ a w s e s' Q hev hR hG hQ
    | false => simp only [Bool.false_eq_true, if_false] at hev ⊢; exact (ihy ay hy N rt out ex).withKill _ _ γ a w s e s' Q hev hR hG hQ
  | block id b ih =>
    intro ac hc N rt out ex
    simp only [cCode, Option.map_eq_some_iff] at hc
    obtain ⟨ab, hb, rfl⟩ := hc
    intro γ a w s e s' Q hev hR hG hQ
    simp only [ann, evC] at hev
    have ih' := ih ab hb N rt out ((id, out) :: ex)
    refine wp_block ?_
    cases h1 : evC E cf n (ann N rt ab out ((id, out) :: ex)).1 s with
    | none => rw [h1] at hev; simp at hev
    | some p =>
      obtain ⟨e1, s1⟩ := p
      rw [h1] at hev
      refine ih' γ a w s e1 s1 _ h1 hR hG (fun γ' a' w' he hR' => ?_)
      cases e1 with
      | normal =>
        simp only [Option.some.injEq, Prod.mk.injEq] at hev
        obtain ⟨rfl, rfl⟩ := hev
        exact hQ γ' a' w' he hR'
      | exit j =>
        simp only at hev
        show Exit.inBlock id Q (.exit j) a' w'
        unfold Exit.inBlock
        split at hev
        · rename_i hj
          simp only [Option.some.injEq, Prod.mk.injEq] at hev
          obtain ⟨rfl, rfl⟩ := hev
          simp only [hj, if_true]
          exact hQ γ' a' w' he hR'
        · rename_i hj
          simp only [Option.some.injEq, Prod.mk.injEq] at hev
          obtain ⟨rfl, rfl⟩ := hev
          simp only [hj, if_false]
          exact hQ γ' a' w' he hR'
      | ret =>
        simp only [Option.some.injEq, Prod.mk.injEq] at hev
        obtain ⟨rfl, rfl⟩ := hev
        exact hQ γ' a' w' he hR'
  | loop b ih =>
    intro ac hc N rt out ex
    simp only [cCode, Option.map_eq_some_iff] at hc
    obtain ⟨ab, hb, rfl⟩ := hc
    intro γ a w s e s' Q hev hR hG hQ
    simp only [ann, evC] at hev
    exact wp_loop_rounds n (rounds_ok (ih ab hb N rt _ ex) n γ a w s e s' Q hev hR hG hQ)
  | scope b ih =>
    intro ac hc N rt out ex
    simp only [cCode, Option.map_eq_some_iff] at hc
    obtain ⟨ab, hb, rfl⟩ := hc
    intro γ a w s e s' Q hev hR hG hQ
    simp only [ann, evC] at hev
    refine wp_scope_straight (ih ab hb N rt out ex γ a w s e s' _ hev hR hG (fun γ' a' w' he hR' => ?_))
    cases e <;> exact hQ γ' a' w' he hR'
  | _ =>
    intro ac hc N rt out ex γ a w s e s' Q hev
    simp only [cCode, Option.some.injEq] at hc
    subst hc
    simp [ann, evC] at hev

end Go.Ev
