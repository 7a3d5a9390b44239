/- What only computes looks at its operands alone. -/
/- Regions that draw their order. -/
/- Regions that draw their order: every order comes to the text's order. -/
import Derived.Test.YtcjebcenbimcgaaGreatDoorGad
set_option linter.unusedSimpArgs false
set_option linter.unusedVariables false
namespace Go.Ev
variable {E : Env} {cf : CallF} {dst : Option Nat}
theorem ev_local {s s' : St} {x : Opd} (h : ∀ t ∈ x.reads, s'.rd t = s.rd t) : x.ev E s' = x.ev E s := by
  cases x with
  | t n => exact h n (by simp [Opd.reads])
  | c v => rfl
  | g n => rfl
theorem sink_same {s s' : St} {v : AV} : (∀ p, sinkQ true s v = some p → p.2 = s) ∧ sinkQ true s' v = (sinkQ true s v).map fun p => (p.1, s') := by
  cases v with
  | sv v => cases v <;> simp [sinkQ, sink] <;> (rintro a b rfl rfl; rfl)
  | own e xs => simp [sinkQ, sink]
  | ptr i off => simp [sinkQ]
  | mrow i n e => simp [sinkQ]
  | clo f a b => simp [sinkQ, sink]
theorem sinks_same {s s' : St} : ∀ (xs : List Opd), (∀ x ∈ xs, x.ev E s' = x.ev E s) → (∀ p, sinks E true s xs = some p → p.2 = s) ∧ sinks E true s' xs = (sinks E true s xs).map fun p => (p.1, s')
  | [], _ => by simp [sinks]
  | x :: xs, h => by
    obtain ⟨h1, h2⟩ := sink_same (s := s) (s' := s') (v := x.ev E s)
    obtain ⟨k1, k2⟩ := sinks_same xs (fun y hy => h y (by simp [hy]))
    have hx := h x (by simp)
    simp only [sinks, hx, h2]
    cases hs : sinkQ true s (x.ev E s) with
    | none => simp
    | some p =>
      obtain ⟨v, s2⟩ := p
      have := h1 _ hs
      simp only at this
      subst this
      simp only [Option.map_some, k2]
      cases hss : sinks E true s2 xs with
      | none => simp
      | some p2 =>
        obtain ⟨vs, s3⟩ := p2
        have := k1 _ hss
        simp only at this
        subst this
        simp
theorem map_local {s s' : St} {xs : List Opd} (h : ∀ x ∈ xs, x.ev E s' = x.ev E s) : (xs.map fun x => (Opd.ev E s' x).arg) = xs.map fun x => (Opd.ev E s x).arg :=
  List.map_congr_left fun x hx => by rw [h x hx]
theorem mapOpt_congr {α β : Type} {f g : α → Option β} : ∀ {xs : List α}, (∀ x ∈ xs, f x = g x) → mapOpt f xs = mapOpt g xs
  | [], _ => rfl
  | x :: xs, h => by
    simp only [mapOpt]
    rw [h x (by simp), mapOpt_congr (fun y hy => h y (by simp [hy]))]
theorem optInt_local {s s' : St} {x : Option Opd} {d : Int} (h : ∀ t ∈ (x.map Opd.reads).getD [], s'.rd t = s.rd t) : optInt E s' x d = optInt E s x d := by
  cases x with
  | none => rfl
  | some o => simp only [optInt]; rw [ev_local (by simpa using h)]
theorem cellsAt_local {s s' : St} (hbx : s'.bx = s.bx) (v : AV) : cellsAt s' v = cellsAt s v := by
  unfold cellsAt
  rw [hbx]
theorem linkAt_local {s s' : St} (hbx : s'.bx = s.bx) (n : Option Nat) (v : AV) : linkAt s' n v = linkAt s n v := by
  unfold linkAt
  rw [hbx]
theorem tidyAt_q (s : St) (n : Option Nat) (v : AV) : tidyAt true s n v = s := by simp [tidyAt]
theorem doAppQ_same {s s1 : St} {e k b : Nat} {d : Option Nat} {x y : Opd} {av : AV} (h : doAppQ E s e k b d x y = some (av, s1)) : s1 = s.forgetO (AOp.app e k b d x y).kills := by
  unfold doAppQ at h
  split at h <;> try (simp at h; done)
  split at h <;> try (simp at h; done)
  split at h <;> simp only [Option.some.injEq, Prod.mk.injEq, reduceCtorEq] at h
  exact h.2.symm
theorem doApp_local {s s' : St} {e k b t : Nat} {y : Opd} (hz : s.lz = none) (hz' : s'.lz = none) (ht : s'.rd t = s.rd t) (hy : y.ev E s' = y.ev E s) :
    (doApp E s' e k b (some t) (.t t) y).map (·.1) = (doApp E s e k b (some t) (.t t) y).map (·.1) := by
  unfold doApp appBase
  simp only [hz, hz', hy]
  cases (y.ev E s).elems with
  | none => rfl
  | some new =>
    simp only [ht]
    generalize s.rd t = v
    cases v with
    | own e' ys => simp only; split <;> rfl
    | sv v => cases v <;> simp only <;> (repeat' split) <;> simp_all
    | _ => rfl
theorem doAppQ_local {s s' : St} {e k b : Nat} {d : Option Nat} {x y : Opd} (hz : s.lz = s'.lz) (hr : ∀ t ∈ x.reads ++ y.reads, s'.rd t = s.rd t) :
    doAppQ E s' e k b d x y = (doAppQ E s e k b d x y).map fun p => (p.1, s'.forgetO (AOp.app e k b d x y).kills) := by
  cases x with
  | t t =>
    have ht : s'.rd t = s.rd t := hr t (by simp [Opd.reads])
    have hy : y.ev E s' = y.ev E s := ev_local (fun u hu => hr u (by simp [hu]))
    unfold doAppQ
    simp only [ht, ← hz]
    by_cases hc : d = some t ∧ s.lz = none ∧ (s.rd t).isOwn = true
    · rw [if_pos hc, if_pos hc]
      obtain ⟨rfl, h2, _⟩ := hc
      have := doApp_local (E := E) (e := e) (k := k) (b := b) h2 (hz ▸ h2) ht hy
      cases h1 : doApp E s e k b (some t) (.t t) y with
      | none => rw [h1] at this; simp only [Option.map_none, Option.map_eq_none_iff] at this; rw [this]; rfl
      | some p =>
        rw [h1] at this
        simp only [Option.map_some, Option.map_eq_some_iff] at this
        obtain ⟨p2, g1, g2⟩ := this
        rw [g1]
        obtain ⟨p21, p22⟩ := p2
        obtain ⟨p1, p12⟩ := p
        simp only at g2
        subst g2
        rfl
    · rw [if_neg hc, if_neg hc]; rfl
  | c v => rfl
  | g n => rfl
theorem stepV_same {s s1 : St} {op : AOp} {av : AV} (hh : headOp op = true) (h : stepV E cf true dst s op = some (av, s1)) : s1 = s.forgetO op.kills := by
  have hS := @sinks_same E s s
  have hs1 := @sink_same s s
  cases op <;> simp only [headOp, Bool.false_eq_true] at hh <;> simp only [stepV, if_true, tidyAt_q] at h
  case build z parts =>
    split at h <;> try (simp at h; done)
    rename_i vs s2 hvs
    have := (hS _ (fun _ _ => rfl)).1 _ hvs
    split at h <;> simp only [Option.some.injEq, Prod.mk.injEq, reduceCtorEq] at h
    rw [← h.2]; exact this
  case mkSl e k parts =>
    split at h <;> try (simp at h; done)
    rename_i vs s2 hvs
    have := (hS _ (fun _ _ => rfl)).1 _ hvs
    split at h <;> simp only [Option.some.injEq, Prod.mk.injEq, reduceCtorEq] at h
    rw [← h.2]; exact this
  case mkI t x =>
    split at h <;> simp only [Option.some.injEq, Prod.mk.injEq, reduceCtorEq] at h
    rename_i v s2 hv
    have := hs1.1 _ hv
    rw [← h.2]; exact this
  case app e k b d x y => exact doAppQ_same h
  case s2r x =>
    split at h <;> try (simp at h; done)
    simp only [Bool.true_or, if_true, Option.some.injEq, Prod.mk.injEq] at h
    exact h.2.symm
  case b2s x =>
    split at h <;> try (simp at h; done)
    rename_i xs s2 hv
    have := hs1.1 _ hv
    split at h <;> simp only [Option.some.injEq, Prod.mk.injEq, reduceCtorEq] at h
    rw [← h.2]; exact this
  all_goals
    repeat' split at h
    all_goals first
      | (simp only [Option.some.injEq, Prod.mk.injEq] at h; exact h.2.symm)
      | (simp at h; done)
theorem stepV_local {s s' : St} {op : AOp} (hz : s.lz = s'.lz ∨ op.kills = none) (hbx : noBx op = false → s'.bx = s.bx) (hr : ∀ t ∈ op.reads, s'.rd t = s.rd t) (hh : headOp op = true) : stepV E cf true dst s' op = (stepV E cf true dst s op).map fun p => (p.1, s'.forgetO op.kills) := by
  have hS := @sinks_same E s s'
  cases op <;> simp only [headOp, Bool.false_eq_true] at hh <;> simp only [AOp.reads] at hr
  all_goals simp only [stepV, if_true, tidyAt_q]
  case app e k b d x y =>
    rcases hz with hz | hz
    · exact doAppQ_local hz hr
    · cases x with
      | t t => simp [AOp.kills] at hz
      | c v => rfl
      | g n => rfl
  all_goals simp only [AOp.kills, St.forgetO]
  case mov x => rw [ev_local hr]; rfl
  case movL t => rw [hr t (by simp)]; cases dst <;> rfl
  case pick c x y =>
    rw [ev_local (x := c) (fun t ht => hr t (by simp [ht])), ev_local (x := x) (fun t ht => hr t (by simp [ht])), ev_local (x := y) (fun t ht => hr t (by simp [ht]))]
    cases (c.ev E s).bool? <;> rfl
  case load n p => rw [ev_local hr, linkAt_local (hbx rfl), cellsAt_local (hbx rfl)]; (repeat' split) <;> simp_all
  case loadL p => rw [ev_local hr, cellsAt_local (hbx rfl)]; (repeat' split) <;> simp_all
  case build z parts =>
    obtain ⟨k1, k2⟩ := hS (parts.map (·.2.2)) (fun x hx => ev_local (fun t ht => hr t (by
      obtain ⟨p, hp, rfl⟩ := List.mem_map.1 hx
      exact List.mem_flatMap.2 ⟨p, hp, ht⟩)))
    rw [k2]
    cases hss : sinks E true s (parts.map (·.2.2)) with
    | none => rfl
    | some p =>
      have hkn : (parts.map fun p => p.2.2.ev E s') = parts.map fun p => p.2.2.ev E s := List.map_congr_left fun p hp => ev_local (fun t ht => hr t (List.mem_flatMap.2 ⟨p, hp, ht⟩))
      rw [hkn]
      simp only [Option.map_some]
      cases fillS z ((parts.zip (keepNil (parts.map fun p => p.2.2.ev E s) p.1)).map fun p => (p.1.1, p.1.2.1, p.2)) <;> rfl
  case mkSl e k parts =>
    obtain ⟨k1, k2⟩ := hS parts (fun x hx => ev_local (fun t ht => hr t (List.mem_flatMap.2 ⟨x, hx, ht⟩)))
    rw [k2]
    cases hss : sinks E true s parts with
    | none => rfl
    | some p => simp only [Option.map_some]; split <;> rfl
  case b2s x =>
    rw [ev_local hr, (sink_same (s := s) (s' := s')).2]
    cases hss : sinkQ true s (x.ev E s) with
    | none => rfl
    | some p =>
      obtain ⟨v, s2⟩ := p
      cases v <;> simp only [Option.map_some] <;> try rfl
      split <;> rfl
  case mkI t x =>
    rw [ev_local hr, (sink_same (s := s) (s' := s')).2]
    cases hss : sinkQ true s (x.ev E s) <;> rfl
  case mkF f a b =>
    have ha : ∀ x ∈ a, x.ev E s' = x.ev E s := fun x hx => ev_local (fun t ht => hr t (List.mem_append.2 (.inl (List.mem_flatMap.2 ⟨x, hx, ht⟩))))
    have hb : ∀ x ∈ b, x.ev E s' = x.ev E s := fun x hx => ev_local (fun t ht => hr t (List.mem_append.2 (.inr (List.mem_flatMap.2 ⟨x, hx, ht⟩))))
    rw [map_local ha, map_local hb, mapOpt_congr (fun x hx => by rw [ha x hx]), mapOpt_congr (xs := b) (fun x hx => by rw [hb x hx])]
    split <;> rfl
  case subS x lo hi =>
    rw [ev_local (x := x) (fun t ht => hr t (by simp [ht]))]
    simp only [optInt_local (x := lo) (s := s) (s' := s') (fun t ht => hr t (by simp only [List.mem_append]; exact .inl (.inr ht))), optInt_local (x := hi) (s := s) (s' := s') (fun t ht => hr t (by simp only [List.mem_append]; exact .inr ht))]
    (repeat' split) <;> simp_all
  case subL e x lo hi =>
    rw [ev_local (x := x) (fun t ht => hr t (by simp [ht]))]
    simp only [optInt_local (x := lo) (s := s) (s' := s') (fun t ht => hr t (by simp only [List.mem_append]; exact .inl (.inr ht))), optInt_local (x := hi) (s := s) (s' := s') (fun t ht => hr t (by simp only [List.mem_append]; exact .inr ht))]
    (repeat' split) <;> simp_all
  case call f args =>
    rw [ev_local (x := f) (fun t ht => hr t (by simp [ht])), map_local (fun x hx => ev_local (fun t ht => hr t (List.mem_append.2 (.inr (List.mem_flatMap.2 ⟨x, hx, ht⟩))))), hbx rfl]
    (repeat' split) <;> simp_all
  case bin op x y => rw [ev_local (x := x) (fun t ht => hr t (by simp [ht])), ev_local (x := y) (fun t ht => hr t (by simp [ht]))]; (repeat' split) <;> simp_all
  case mm op x y => rw [ev_local (x := x) (fun t ht => hr t (by simp [ht])), ev_local (x := y) (fun t ht => hr t (by simp [ht]))]; (repeat' split) <;> simp_all
  case eqB op x y => rw [ev_local (x := x) (fun t ht => hr t (by simp [ht])), ev_local (x := y) (fun t ht => hr t (by simp [ht]))]; (repeat' split) <;> simp_all
  case iAddrS e x y => rw [ev_local (x := x) (fun t ht => hr t (by simp [ht])), ev_local (x := y) (fun t ht => hr t (by simp [ht]))]; (repeat' split) <;> simp_all
  case iAddrA n e x y => rw [ev_local (x := x) (fun t ht => hr t (by simp [ht])), ev_local (x := y) (fun t ht => hr t (by simp [ht]))]; (repeat' split) <;> simp_all
  case idxS x y => rw [ev_local (x := x) (fun t ht => hr t (by simp [ht])), ev_local (x := y) (fun t ht => hr t (by simp [ht]))]; (repeat' split) <;> simp_all
  case idxA l e n x y => rw [ev_local (x := x) (fun t ht => hr t (by simp [ht])), ev_local (x := y) (fun t ht => hr t (by simp [ht]))]; (repeat' split) <;> simp_all
  case bad => rfl
  all_goals (rw [ev_local hr]; (repeat' split) <;> simp_all)
theorem cellsAt_ext {s s' : St} {e : List Box} (hbx : s'.bx = s.bx ++ e) {v : AV} {cs : List SV} (h : cellsAt s v = some cs) : cellsAt s' v = some cs := by
  unfold cellsAt at h ⊢
  cases v with
  | ptr i off =>
    simp only at h ⊢
    rw [hbx]
    cases hi : s.bx[i]? with
    | none => rw [hi] at h; simp at h
    | some b =>
      rw [List.getElem?_append_left (List.getElem?_eq_some_iff.1 hi).1, hi]
      rw [hi] at h
      exact h
  | sv v => cases v <;> exact h
  | _ => exact h
theorem linkAt_ext {s s' : St} {e : List Box} (hbx : s'.bx = s.bx ++ e) {n : Option Nat} {v : AV} (h : (∃ r, linkAt s n v = some r) ∨ ∃ cs, cellsAt s v = some cs) : linkAt s' n v = linkAt s n v := by
  cases v with
  | ptr i off =>
    have hi : i < s.bx.length := by
      refine Decidable.byContradiction fun hn => ?_
      have hz : s.bx[i]? = none := List.getElem?_eq_none (by omega)
      rcases h with ⟨r, h⟩ | ⟨cs, h⟩
      · unfold linkAt at h
        cases n <;> simp [hz] at h
      · unfold cellsAt at h
        simp [hz] at h
    cases n with
    | some k => rfl
    | none =>
      unfold linkAt
      rw [hbx]
      simp only [List.getElem?_append_left hi]
  | _ => unfold linkAt; cases n <;> rfl
theorem doLook_ext {f : Nat} {args : List AV} {bx e : List Box} {r : AV × List Box} (h : doLook E f args bx = some r) : doLook E f args (bx ++ e) = some (r.1, bx ++ e) := by
  unfold doLook at h ⊢
  split at h <;> try (simp at h; done)
  rename_i k hk
  split at h <;> try (simp at h; done)
  rename_i i
  split at h <;> try (simp at h; done)
  rename_i cs hi
  split at h <;> simp only [Option.some.injEq, reduceCtorEq] at h
  rename_i v hv
  subst h
  simp only [List.getElem?_append_left (List.getElem?_eq_some_iff.1 hi).1, hi, hv]
theorem doCall_ext {f : Nat} {args : List AV} {bx e : List Box} {r : AV × List Box} (h : doCall E cf true f args bx = some r) : doCall E cf true f args (bx ++ e) = some (r.1, bx ++ e) := by
  unfold doCall at h ⊢
  split at h
  · split at h <;> try (simp at h; done)
    split at h <;> simp only [Option.some.injEq, reduceCtorEq] at h
    subst h
    simp [*]
  · simp only [if_true] at h ⊢
    exact doLook_ext h
theorem stepV_ext {s s' s1 : St} {op : AOp} {av : AV} (hz : s.lz = s'.lz ∨ op.kills = none) {e : List Box} (hbx : s'.bx = s.bx ++ e) (hr : ∀ t ∈ op.reads, s'.rd t = s.rd t) (hh : headOp op = true)
    (h : stepV E cf true dst s op = some (av, s1)) : stepV E cf true dst s' op = some (av, s'.forgetO op.kills) := by
  by_cases hn : noBx op = true
  · rw [stepV_local hz (fun hf => by rw [hn] at hf; simp at hf) hr hh, h]
    rfl
  · cases op <;> simp only [noBx, not_true_eq_false] at hn
    · rename_i n p
      simp only [stepV, tidyAt_q] at h ⊢
      rw [ev_local hr]
      cases hl : linkAt s n (p.ev E s) with
      | some v =>
        rw [hl] at h
        rw [linkAt_ext hbx (.inl ⟨v, hl⟩), hl]
        simp only [Option.some.injEq, Prod.mk.injEq] at h ⊢
        exact ⟨h.1, rfl⟩
      | none =>
      rw [hl] at h
      simp only at h
      split at h <;> try (simp at h; done)
      rename_i cs hcs
      rw [linkAt_ext hbx (.inr ⟨cs, hcs⟩), hl, cellsAt_ext hbx hcs]
      simp only
      split at h <;> simp only [Option.some.injEq, Prod.mk.injEq, reduceCtorEq] at h
      rename_i v hv
      rw [← h.1]; rfl
    · rename_i p
      simp only [stepV] at h ⊢
      rw [ev_local hr]
      split at h <;> try (simp at h; done)
      rename_i cs hcs
      rw [cellsAt_ext hbx hcs]
      simp only
      split at h <;> simp only [Option.some.injEq, Prod.mk.injEq, reduceCtorEq] at h
      rename_i v hv
      rw [← h.1]; rfl
    · rename_i f args
      simp only [AOp.reads] at hr
      simp only [stepV] at h ⊢
      rw [ev_local (x := f) (fun t ht => hr t (by simp [ht])), map_local (fun x hx => ev_local (fun t ht => hr t (List.mem_append.2 (.inr (List.mem_flatMap.2 ⟨x, hx, ht⟩))))), hbx]
      split at h <;> try (simp at h; done)
      rename_i k first cap hk
      split at h <;> simp only [Option.some.injEq, Prod.mk.injEq, reduceCtorEq] at h
      rename_i r bx hcl
      rw [doCall_ext hcl, ← h.1]; rfl
end Go.Ev

set_option linter.unusedSimpArgs false
set_option linter.unusedVariables false
namespace Go.Ev
variable {P : Program} {E : Env} {γ : Gh} {a : Act} {w : World} {s : St} {cf : CallF} {q : Bool} {s1 : St} {av : AV}
theorem allBefore_get (l : List Oper) : (allBefore l).length = l.length ∧ ∀ (i : Nat) (o : Oper), l[i]? = some o → (allBefore l).getD i 0 = befores ((allBefore l).take i) o := by
  have key : ∀ (l : List Oper) (acc : List Nat), (l.foldl (fun acc o => acc ++ [befores acc o]) acc).length = acc.length + l.length ∧ (l.foldl (fun acc o => acc ++ [befores acc o]) acc).take acc.length = acc ∧
      ∀ (i : Nat) (o : Oper), l[i]? = some o → (l.foldl (fun acc o => acc ++ [befores acc o]) acc).getD (acc.length + i) 0 = befores ((l.foldl (fun acc o => acc ++ [befores acc o]) acc).take (acc.length + i)) o := by
    intro l
    induction l with
    | nil => intro acc; simp
    | cons o l ih =>
      intro acc
      simp only [List.foldl_cons]
      obtain ⟨h1, h2, h3⟩ := ih (acc ++ [befores acc o])
      generalize hr : l.foldl (fun acc o => acc ++ [befores acc o]) (acc ++ [befores acc o]) = r at h1 h2 h3
      simp only [List.length_append, List.length_singleton] at h1 h2 h3
      have htk : r.take acc.length = acc := by
        have := congrArg (List.take acc.length) h2
        rw [List.take_take, Nat.min_eq_left (by omega), List.take_left] at this
        exact this
      refine ⟨by simp [h1]; omega, htk, fun i o' ho => ?_⟩
      cases i with
      | zero =>
        simp only [List.getElem?_cons_zero, Option.some.injEq] at ho
        subst ho
        have h4 : r[acc.length]? = some (befores acc o) := by
          have := congrArg (fun x => x[acc.length]?) h2
          simp only [List.getElem?_take] at this
          rw [if_pos (by omega)] at this
          rw [this]; simp
        rw [Nat.add_zero, List.getD_eq_getElem?_getD, h4, htk]; rfl
      | succ i =>
        have := h3 i o' (by simpa using ho)
        rw [show acc.length + (i + 1) = acc.length + 1 + i from by omega]
        exact this
  obtain ⟨h1, _, h3⟩ := key l []
  exact ⟨by simpa [allBefore] using h1, fun i o ho => by simpa [allBefore] using h3 i o ho⟩
theorem befores_bit {acc : List Nat} {o : Oper} {j : Nat} (h : (befores acc o).testBit j = true) : ∃ e ∈ o.after, Region.binds .any e = true ∧ (j = e.on ∨ (acc.getD e.on 0).testBit j = true) := by
  unfold befores at h
  rw [← Array.foldl_toList] at h
  have key : ∀ (l : List Edge) (s : Nat), (l.foldl (fun s e => if Region.binds .any e then s ||| 2 ^ e.on ||| acc.getD e.on 0 else s) s).testBit j = true → s.testBit j = true ∨ ∃ e ∈ l, Region.binds .any e = true ∧ (j = e.on ∨ (acc.getD e.on 0).testBit j = true) := by
    intro l
    induction l with
    | nil => intro s h; exact .inl h
    | cons e l ih =>
      intro s h
      simp only [List.foldl_cons] at h
      rcases ih _ h with h1 | ⟨e', h1, h2⟩
      · split at h1
        · rename_i hb
          simp only [Nat.testBit_or, Bool.or_eq_true, Nat.testBit_two_pow, decide_eq_true_eq] at h1
          rcases h1 with (h1 | h1) | h1
          · exact .inl h1
          · exact .inr ⟨e, by simp, hb, .inl h1.symm⟩
          · exact .inr ⟨e, by simp, hb, .inr h1⟩
        · exact .inl h1
      · exact .inr ⟨e', by simp [h1], h2⟩
  rcases key _ _ h with h1 | ⟨e, h1, h2⟩
  · simp at h1
  · exact ⟨e, by simpa using h1, h2⟩
structure Clo (ops : Array Oper) (listed : Array Bool) : Prop where
  size : listed.size = ops.size
  clo : ∀ (i : Nat) (o : Oper), ops[i]? = some o → listed.getD i false = true → ∀ e ∈ o.after, Region.binds .any e = true → listed.getD e.on false = true
theorem Clo.bits {ops : Array Oper} {listed : Array Bool} (hb : edgesBack ops.toList = true) (h : Clo ops listed) : ∀ (i : Nat) (o : Oper), ops[i]? = some o → (∀ e ∈ o.after, Region.binds .any e = true → listed.getD e.on false = true) →
    ∀ j, ((allBefore ops.toList).getD i 0).testBit j = true → listed.getD j false = true ∧ j < i := by
  intro i
  induction i using Nat.strongRecOn with
  | _ i ih =>
    intro o ho hl j hj
    rw [(allBefore_get ops.toList).2 i o (by simpa using ho)] at hj
    obtain ⟨e, h1, h2, h3⟩ := befores_bit hj
    have hback : e.on < i := by
      unfold edgesBack at hb
      rw [List.all_eq_true] at hb
      have h4 := hb (o, i) (List.mem_zipIdx_iff_getElem?.2 (by simpa using ho))
      simp only [Array.all_eq_true'] at h4
      have := h4 e h1
      simpa [h2] using this
    have hlt : e.on < ops.size := by have := (Array.getElem?_eq_some_iff.1 ho).1; omega
    rcases h3 with rfl | h3
    · exact ⟨hl e h1 h2, hback⟩
    · have hle := hl e h1 h2
      rw [List.getD_eq_getElem?_getD, List.getElem?_take, if_pos hback, ← List.getD_eq_getElem?_getD] at h3
      obtain ⟨k1, k2⟩ := ih e.on hback ops[e.on] (by simp [hlt]) (fun e' he' hb' => h.clo e.on _ (by simp [hlt]) hle e' he' hb') j h3
      exact ⟨k1, by omega⟩
theorem Clo.set {ops : Array Oper} {listed : Array Bool} (h : Clo ops listed) {i : Nat} (hi : i ∈ Region.ready .any ops listed) : Clo ops (listed.setIfInBounds i true) := by
  obtain ⟨hu, o, ho, hall⟩ := mem_ready.1 hi
  refine ⟨by simp [h.size], fun j oj hj hl e he hb => ?_⟩
  by_cases hij : i = j
  · subst hij
    rw [ho] at hj
    obtain rfl := Option.some.inj hj
    exact getD_set_true (hall e he hb)
  · rw [getD_set_ne false hij] at hl
    exact getD_set_true (h.clo j oj hj hl e he hb)
theorem getD_tf {listed : Array Bool} {i : Nat} (h : i < listed.size) : listed.getD i true = listed.getD i false := by
  simp [Array.getD_eq_getD_getElem?, h]
theorem first_ready {ops : Array Oper} {listed : Array Bool} (hb : edgesBack ops.toList = true) (h : Clo ops listed) {i : Nat} (hi : i < ops.size) (hu : listed.getD i false = false) (hf : ∀ j, j < i → listed.getD j false = true) : i ∈ Region.ready .any ops listed := by
  refine mem_ready.2 ⟨by rw [getD_tf (by rw [h.size]; exact hi)]; exact hu, ops[i], by simp [hi], fun e he hbd => hf _ ?_⟩
  unfold edgesBack at hb
  rw [List.all_eq_true] at hb
  have h4 := hb (ops[i], i) (List.mem_zipIdx_iff_getElem?.2 (by simp [hi]))
  simp only [Array.all_eq_true'] at h4
  have := h4 e he
  simpa [hbd] using this
theorem first_un {n : Nat} {p : Nat → Bool} (h : ∃ i, i < n ∧ p i = false) : ∃ i, i < n ∧ p i = false ∧ ∀ j, j < i → p j = true := by
  induction n with
  | zero => obtain ⟨i, h, _⟩ := h; omega
  | succ n ih =>
    by_cases h' : ∃ i, i < n ∧ p i = false
    · obtain ⟨i, h1, h2⟩ := ih h'; exact ⟨i, by omega, h2⟩
    · obtain ⟨i, h1, h2⟩ := h
      have : i = n := by
        rcases Nat.lt_or_ge i n with h3 | h3
        · exact absurd ⟨i, h3, h2⟩ h'
        · omega
      subst this
      refine ⟨i, h1, h2, fun j hj => ?_⟩
      cases hp : p j with
      | true => rfl
      | false => exact absurd ⟨j, hj, hp⟩ h'
theorem tail_bits {ops : Array Oper} {i : Nat} (hi : i < ops.size) (h : tailFrom (allBefore ops.toList) ≤ i) : ∀ j, j < i → ((allBefore ops.toList).getD i 0).testBit j = true := by
  have key : ∀ (l : List Nat) (k h0 : Nat), (∀ (j : Nat) (x : Nat), l[j]? = some x → (l.zipIdx k).foldl (fun h p => if p.1 = 2 ^ p.2 - 1 then h else p.2 + 1) h0 ≤ k + j → x = 2 ^ (k + j) - 1) ∧ (h0 ≤ k → h0 ≤ (l.zipIdx k).foldl (fun h p => if p.1 = 2 ^ p.2 - 1 then h else p.2 + 1) h0) := by
    intro l
    induction l with
    | nil => intro k h0; simp
    | cons x l ih =>
      intro k h0
      simp only [List.zipIdx_cons, List.foldl_cons]
      by_cases hx : x = 2 ^ k - 1
      · rw [if_pos hx]
        obtain ⟨h1, h2⟩ := ih (k + 1) h0
        refine ⟨fun j y hy hle => ?_, fun h => h2 (by omega)⟩
        cases j with
        | zero => simp only [List.getElem?_cons_zero, Option.some.injEq] at hy; subst hy; exact hx
        | succ j =>
          have := h1 j y (by simpa using hy) (by omega)
          rw [show k + (j + 1) = k + 1 + j from by omega]; exact this
      · rw [if_neg hx]
        obtain ⟨h1, h2⟩ := ih (k + 1) (k + 1)
        have h3 := h2 (Nat.le_refl _)
        refine ⟨fun j y hy hle => ?_, fun h => by omega⟩
        cases j with
        | zero => omega
        | succ j =>
          have := h1 j y (by simpa using hy) (by omega)
          rw [show k + (j + 1) = k + 1 + j from by omega]; exact this
  intro j hj
  have hlen : i < (allBefore ops.toList).length := by rw [(allBefore_get _).1]; simpa using hi
  have h1 := (key (allBefore ops.toList) 0 0).1 i (allBefore ops.toList)[i] (by simp [hlen]) (by simpa [tailFrom] using h)
  rw [List.getD_eq_getElem?_getD, List.getElem?_eq_getElem hlen, Option.getD_some, h1, Nat.testBit_two_pow_sub_one]
  simpa using hj
def fin (s : St) (dst : Option Nat) (v : AV) : Option (Option (Nat × Loc)) → St
  | none => s.put dst v
  | some l => { (s.put dst v) with lz := l }
theorem wants_local {l : List SOp} {o : SOp} {s s' : St} (hr : ∀ t ∈ o.looks l, s'.rd t = s.rd t) : wants l s' o = wants l s o := by
  unfold wants
  cases hg : o.guard with
  | none => rfl
  | some gw =>
    obtain ⟨j, b⟩ := gw
    simp only
    cases hj : l[j]? with
    | none => rfl
    | some g =>
      simp only
      cases hd : g.dst with
      | none => rfl
      | some d =>
        simp only
        rw [hr d (by simp [SOp.looks, hg, hj, hd])]
theorem lazyAfter_local {dst : Option Nat} {op : AOp} {s s' : St} (hlen : s'.tm.length = s.tm.length) (hr : ∀ t ∈ op.reads, s'.rd t = s.rd t) : lazyAfter E s' dst op = lazyAfter E s dst op := by
  cases op with
  | movL t => simp only [lazyAfter, hlen]
  | loadL p => simp only [lazyAfter]; rw [ev_local hr, hlen]
  | _ => rfl
theorem lazyAfter_none {dst : Option Nat} {op : AOp} {s : St} (h : lazyOp op = false) : lazyAfter E s dst op = none := by
  cases op <;> first | rfl | simp [lazyOp] at h
theorem lazyAfter_some {dst : Option Nat} {op : AOp} {s : St} (h : lazyOp op = true) : ∃ r, lazyAfter E s dst op = some r ∧ ∀ d t, r = some (d, .tmp t) → t ∈ op.reads ∧ dst = some d := by
  cases op <;> simp only [lazyOp, Bool.false_eq_true] at h
  · rename_i t
    simp only [lazyAfter]
    split
    · split
      · exact ⟨_, rfl, by simp⟩
      · refine ⟨_, rfl, fun d t' h => ?_⟩
        simp only [Option.some.injEq, Prod.mk.injEq, Loc.tmp.injEq] at h
        obtain ⟨rfl, rfl⟩ := h
        exact ⟨by simp [AOp.reads], rfl⟩
    · exact ⟨_, rfl, by simp⟩
  · simp only [lazyAfter]
    split
    · split
      · exact ⟨_, rfl, by simp⟩
      · exact ⟨_, rfl, by simp⟩
    · exact ⟨_, rfl, by simp⟩
theorem lazyAfter_dst {dst : Option Nat} {op : AOp} {s : St} {d : Nat} {ℓ : Loc} (h : lazyAfter E s dst op = some (some (d, ℓ))) : dst = some d := by
  cases op <;> simp only [lazyAfter, reduceCtorEq] at h
  · split at h
    · split at h <;> simp only [Option.some.injEq, Prod.mk.injEq, reduceCtorEq] at h; rw [h.1]
    · simp at h
  · split at h
    · split at h <;> simp only [Option.some.injEq, Prod.mk.injEq, reduceCtorEq] at h; rw [h.1]
    · simp at h
theorem forgetO_len (s : St) (k : Option Nat) : (s.forgetO k).tm.length = s.tm.length := by cases k <;> simp [St.forgetO, St.forget]
theorem forgetO_lz (s : St) (k : Option Nat) : (s.forgetO k).lz = s.lz := by cases k <;> rfl
theorem forgetO_bx (s : St) (k : Option Nat) : (s.forgetO k).bx = s.bx ∧ ((s.forgetO k).df, (s.forgetO k).lk) = (s.df, s.lk) := by cases k <;> exact ⟨rfl, rfl⟩
theorem pre_true (op : AOp) (s : St) : pre true op s = s := by cases op <;> rfl
theorem opRun_local2 {l : List SOp} {o : SOp} {s s' s1 : St} {e : List Box} (hbx : s'.bx = s.bx ++ e ∨ noBx o.op = true) (hlen : s'.tm.length = s.tm.length) (hr : ∀ t ∈ o.looks l, s'.rd t = s.rd t) (hh : headOp o.op = true) (h : opRun E cf true l o s = some s1)
    (hz : lazyOp o.op = true → s.lz = none ∧ s'.lz = none) (hk : o.op.kills ≠ none → o.guard = none ∧ s.lz = none ∧ s'.lz = none) :
    ∃ v r, s1 = fin (s.forgetO o.op.kills) o.dst v r ∧ opRun E cf true l o s' = some (fin (s'.forgetO o.op.kills) o.dst v r) ∧ (lazyOp o.op = false → r = none) ∧ (lazyOp o.op = true → ∃ x, r = some x ∧ ∀ d ℓ, x = some (d, ℓ) → o.dst = some d ∧ ∀ t, ℓ = .tmp t → t ∈ o.looks l) := by
  have hrr : ∀ t ∈ o.op.reads, s'.rd t = s.rd t := fun t ht => hr t (by simp [SOp.looks, ht])
  have hzk : s.lz = s'.lz ∨ o.op.kills = none := by
    cases hkk : o.op.kills with
    | none => exact .inr rfl
    | some t => obtain ⟨_, h1, h2⟩ := hk (by simp [hkk]); exact .inl (by rw [h1, h2])
  unfold opRun at h ⊢
  rw [wants_local hr]
  split at h
  · rename_i hw
    simp only [stepOp, pre_true] at h ⊢
    rw [lazyAfter_local hlen hrr]
    split at h <;> try (simp at h; done)
    rename_i v s2 hst
    have := stepV_same hh hst
    subst this
    have hv : stepV E cf true o.dst s' o.op = some (v, s'.forgetO o.op.kills) := by
      rcases hbx with hbx | hn
      · exact stepV_ext hzk hbx hrr hh hst
      · rw [stepV_local hzk (fun hf => by rw [hn] at hf; simp at hf) hrr hh, hst]; rfl
    rw [hv]
    simp only
    cases hl : lazyOp o.op with
    | false =>
      rw [lazyAfter_none hl] at h ⊢
      simp only [Option.some.injEq] at h
      exact ⟨v, none, h.symm, rfl, fun _ => rfl, by simp⟩
    | true =>
      obtain ⟨x, hx, hx2⟩ := lazyAfter_some (E := E) (dst := o.dst) (s := s) hl
      rw [hx] at h ⊢
      simp only [Option.some.injEq] at h
      refine ⟨v, some x, h.symm, rfl, by simp, fun _ => ⟨x, rfl, fun d ℓ hd => ⟨lazyAfter_dst (by rw [hx, hd]), fun t ht => ?_⟩⟩⟩
      subst ht
      have := (hx2 d t hd).1
      simp [SOp.looks, this]
  · rename_i hw
    have hkn : o.op.kills = none := by
      cases hkk : o.op.kills with
      | none => rfl
      | some t =>
        have := (hk (by simp [hkk])).1
        simp [wants, this] at hw
    rw [hkn]
    simp only [St.forgetO]
    simp only [Option.some.injEq] at h ⊢
    cases hl : lazyOp o.op with
    | false => exact ⟨.sv .off, none, h.symm, rfl, fun _ => rfl, by simp⟩
    | true =>
      obtain ⟨z1, z2⟩ := hz hl
      have hput : ∀ (x : St), x.lz = none → x.put o.dst (.sv .off) = { (x.put o.dst (.sv .off)) with lz := none } := by
        intro x hx
        cases o.dst with
        | none => simp only [St.put]; cases x; simp_all
        | some d => simp only [St.put, St.set, hx, clearTmp]
      refine ⟨.sv .off, some none, ?_, ?_, by simp, fun _ => ⟨none, rfl, by simp⟩⟩
      · rw [← h]; exact hput s z1
      · show _ = _; exact hput s' z2
  · simp at h
theorem opRun_local {l : List SOp} {o : SOp} {s s' s1 : St} {e : List Box} (hbx : s'.bx = s.bx ++ e) (hlen : s'.tm.length = s.tm.length) (hr : ∀ t ∈ o.looks l, s'.rd t = s.rd t) (hh : headOp o.op = true) (h : opRun E cf true l o s = some s1)
    (hz : lazyOp o.op = true → s.lz = none ∧ s'.lz = none) (hk : o.op.kills ≠ none → o.guard = none ∧ s.lz = none ∧ s'.lz = none) :
    ∃ v r, s1 = fin (s.forgetO o.op.kills) o.dst v r ∧ opRun E cf true l o s' = some (fin (s'.forgetO o.op.kills) o.dst v r) ∧ (lazyOp o.op = false → r = none) ∧ (lazyOp o.op = true → ∃ x, r = some x ∧ ∀ d ℓ, x = some (d, ℓ) → o.dst = some d ∧ ∀ t, ℓ = .tmp t → t ∈ o.looks l) :=
  opRun_local2 (.inl hbx) hlen hr hh h hz hk
end Go.Ev

set_option linter.unusedSimpArgs false
set_option linter.unusedVariables false
namespace Go.Ev
variable {P : Program} {E : Env} {γ : Gh} {a : Act} {w : World} {s : St} {cf : CallF} {q : Bool} {s1 : St} {av : AV}
structure DrawOK (ops : Array Oper) (l : List SOp) (h : Nat) : Prop where
  len : l.length = ops.size
  hle : h ≤ l.length
  back : edgesBack ops.toList = true
  head : ∀ i o, i < h → l[i]? = some o → headOp o.op = true
  one : ∀ i j oi oj, i < h → j < h → l[i]? = some oi → l[j]? = some oj → lazyOp oi.op = true → lazyOp oj.op = true → i = j
  dst : ∀ i j oi oj d, i < h → j < h → l[i]? = some oi → l[j]? = some oj → oi.dst = some d → oj.dst = some d → i = j
  looks : ∀ i j oi oj t, i < h → j < h → l[i]? = some oi → l[j]? = some oj → t ∈ oi.looks l → oj.dst = some t → ((allBefore ops.toList).getD i 0).testBit j = true
  kill : ∀ i oi t, i < h → l[i]? = some oi → oi.op.kills = some t → oi.guard = none ∧ oi.dst ≠ some t ∧ ∀ j oj, j < h → l[j]? = some oj → lazyOp oj.op = false ∧ (i = j ∨ t ∉ oj.looks l)
structure NewOK (l : List SOp) (g : Nat) (d : Nat) (z : List SV) : Prop where
  op : l[g]? = some { dst := some d, op := .new z, guard := none }
  lazy : ∀ i o, i < g → l[i]? = some o → lazyOp o.op = false
  dst : ∀ i o, i < g → l[i]? = some o → o.dst ≠ some d
  kill : ∀ i o, i < g → l[i]? = some o → o.op.kills ≠ some d
  looks : ∀ i o, i < g → l[i]? = some o → d ∉ o.looks l
structure StoreOK (ops : Array Oper) (l : List SOp) (g : Nat) (n : Option Nat) (p : Opd) (u : Nat) : Prop where
  op : l[g]? = some { dst := none, op := .store n p (.t u), guard := none }
  lazy : ∀ i o, i < g → l[i]? = some o → lazyOp o.op = false
  kill : ∀ i o, i < g → l[i]? = some o → o.op.kills = none
  ext : ∃ (j : Nat) (o : SOp) (y : Opd) (k : Nat), j < g ∧ l[j]? = some o ∧ o.dst = some u ∧ o.op = .ext y k
  looks : ∀ t, t ∈ p.reads ++ [u] → ∀ j oj, j < g → l[j]? = some oj → oj.dst = some t → ((allBefore ops.toList).getD g 0).testBit j = true
  free : ∀ j oj, j < g → l[j]? = some oj → ((allBefore ops.toList).getD g 0).testBit j = true ∨ noBx oj.op = true
structure New2OK (ops : Array Oper) (l : List SOp) (g : Nat) (d : Nat) (z : List SV) (n : Option Nat) (u : Nat) : Prop where
  new : NewOK l g d z
  op2 : l[g + 1]? = some { dst := none, op := .store n (.t d) (.t u), guard := none }
  b12 : ((allBefore ops.toList).getD (g + 1) 0).testBit g = true
  kill : ∀ i o, i < g → l[i]? = some o → o.op.kills = none
  bld : ∃ (j : Nat) (o : SOp) (c : List SV) (ps : List (Nat × Nat × Opd)), j < g ∧ l[j]? = some o ∧ o.dst = some u ∧ o.op = .build c ps
  ne : u ≠ d
  looks : ∀ j oj, j < g → l[j]? = some oj → oj.dst = some u → ((allBefore ops.toList).getD (g + 1) 0).testBit j = true
  free : ∀ j oj, j < g → l[j]? = some oj → ((allBefore ops.toList).getD (g + 1) 0).testBit j = true ∨ noBx oj.op = true
theorem drawOK_parts {ops : Array Oper} {l : List SOp} {h : Nat} (h1 : edgesBack ops.toList = true) (h2 : (l.take h).all (fun o => headOp o.op) = true) (h3 : lazyOne (l.take h) = true) (h4 : dstsOK (l.take h) = true) (h5 : looksOK (l.take h) l (allBefore ops.toList) = true) (h8 : killsOK (l.take h) l = true) (hlen : l.length = ops.size) (h7 : h ≤ l.length) : DrawOK ops l h := by
  have hmem : ∀ i o, i < h → l[i]? = some o → (o, i) ∈ (l.take h).zipIdx := fun i o hi ho => List.mem_zipIdx_iff_getElem?.2 (by simp [List.getElem?_take, hi, ho])
  refine ⟨hlen, h7, h1, fun i o hi ho => ?_, fun i j oi oj hi hj hoi hoj hli hlj => ?_, fun i j oi oj d hi hj hoi hoj hdi hdj => ?_, fun i j oi oj t hi hj hoi hoj ht hdj => ?_, fun i oi t hi hoi hk => ?_⟩
  · rw [List.all_eq_true] at h2
    exact h2 o (List.mem_of_getElem? (i := i) (by rw [List.getElem?_take, if_pos hi]; exact ho))
  · unfold lazyOne at h3
    rw [List.all_eq_true] at h3
    have := h3 _ (hmem i oi hi hoi)
    rw [List.all_eq_true] at this
    have := this _ (hmem j oj hj hoj)
    simpa [hli, hlj] using this
  · unfold dstsOK at h4
    rw [List.all_eq_true] at h4
    have := h4 _ (hmem i oi hi hoi)
    rw [List.all_eq_true] at this
    have := this _ (hmem j oj hj hoj)
    simpa [hdi, hdj] using this
  · unfold looksOK at h5
    rw [List.all_eq_true] at h5
    have := h5 _ (hmem i oi hi hoi)
    rw [List.all_eq_true] at this
    have := this t ht
    rw [List.all_eq_true] at this
    have := this _ (hmem j oj hj hoj)
    simpa [hdj] using this
  · unfold killsOK at h8
    rw [List.all_eq_true] at h8
    have := h8 _ (hmem i oi hi hoi)
    simp only [hk, Bool.and_eq_true, List.all_eq_true, beq_iff_eq, bne_iff_ne, ne_eq] at this
    obtain ⟨⟨g1, g2⟩, g3⟩ := this
    refine ⟨by simpa using g1, by simpa using g2, fun j oj hj hoj => ?_⟩
    have := g3 _ (hmem j oj hj hoj)
    simpa using this
theorem drawOK_of {ops : Array Oper} {l : List SOp} {h : Nat} (hd : drawHead ops l = some h) : DrawOK ops l h ∧ (tailFrom (allBefore ops.toList) = h ∨ tailFrom (allBefore ops.toList) = h + 1 ∧ ((∃ d z, NewOK l h d z) ∨ ∃ n p u, StoreOK ops l h n p u) ∨ tailFrom (allBefore ops.toList) = h + 2 ∧ ∃ d z n u, New2OK ops l h d z n u) := by
  unfold drawHead at hd
  simp only at hd
  split at hd
  · simp only [Option.some.injEq] at hd
    rename_i hc
    simp only [Bool.and_eq_true, beq_iff_eq, decide_eq_true_eq] at hc
    obtain ⟨⟨⟨⟨⟨⟨⟨h1, h2⟩, h3⟩, h4⟩, h5⟩, h8⟩, h6⟩, h7⟩ := hc
    rw [hd] at h2 h3 h4 h5 h7 h8
    exact ⟨drawOK_parts h1 h2 h3 h4 h5 h8 (by simpa using h6) h7, .inl hd⟩
  · split at hd
    rotate_left
    · split at hd <;> simp only [Option.some.injEq, reduceCtorEq] at hd
      rename_i hc
      simp only [Bool.and_eq_true, beq_iff_eq, decide_eq_true_eq] at hc
      obtain ⟨⟨⟨⟨h1, h0⟩, h2⟩, h6⟩, h7⟩ := hc
      rw [hd] at h2
      have hmem : ∀ i o, i < h → l[i]? = some o → o ∈ l.take h := fun i o hi ho => List.mem_of_getElem? (i := i) (by rw [List.getElem?_take, if_pos hi]; exact ho)
      have hmz : ∀ i o, i < h → l[i]? = some o → (o, i) ∈ (l.take h).zipIdx := fun i o hi ho => List.mem_zipIdx_iff_getElem?.2 (by simp [List.getElem?_take, hi, ho])
      have hlz : (∀ o ∈ l.take h, lazyOp o.op = false) → lazyOne (l.take h) = true := by
        intro hh
        unfold lazyOne
        rw [List.all_eq_true]
        intro p hp
        have := hh p.1 (List.mem_of_getElem? (List.mem_zipIdx_iff_getElem?.1 hp))
        simp [this]
      unfold new2At at h2
      split at h2 <;> try (simp at h2; done)
      rename_i d z n d' u hg hg2
      simp only [Bool.and_eq_true, beq_iff_eq] at h2
      obtain ⟨⟨⟨⟨⟨⟨⟨⟨⟨h2, h4⟩, h5⟩, h8⟩, hdd⟩, hb⟩, h9⟩, hne⟩, h10⟩, h11⟩ := h2
      subst hdd
      rw [List.all_eq_true] at h2
      have h2' : ∀ o ∈ l.take h, headOp o.op = true ∧ lazyOp o.op = false ∧ o.op.kills = none ∧ o.dst ≠ some d ∧ d ∉ o.looks l := fun o ho => by
        have := h2 o ho
        simp only [Bool.and_eq_true, Bool.not_eq_true', beq_iff_eq, bne_iff_ne, ne_eq] at this
        exact ⟨this.1.1.1.1, this.1.1.1.2, this.1.1.2, this.1.2, by simpa using this.2⟩
      refine ⟨drawOK_parts h1 (List.all_eq_true.2 fun o ho => (h2' o ho).1) (hlz fun o ho => (h2' o ho).2.1) h4 h5 h8 (by simpa using h6) (by omega), .inr (.inr ⟨by omega, d, z, n, u, ⟨⟨hg, fun i o hi ho => (h2' o (hmem i o hi ho)).2.1, fun i o hi ho => (h2' o (hmem i o hi ho)).2.2.2.1, fun i o hi ho => by rw [(h2' o (hmem i o hi ho)).2.2.1]; simp, fun i o hi ho => (h2' o (hmem i o hi ho)).2.2.2.2⟩, hg2, hb, fun i o hi ho => (h2' o (hmem i o hi ho)).2.2.1, ?_, by simpa using hne, ?_, ?_⟩⟩)⟩
      · rw [List.any_eq_true] at h9
        obtain ⟨o, ho, h9⟩ := h9
        rw [Bool.and_eq_true, beq_iff_eq] at h9
        obtain ⟨j, hj, hjo⟩ := List.getElem_of_mem ho
        have hjh : j < h := by simp at hj; omega
        have hgo : l[j]? = some o := by
          rw [List.getElem_take] at hjo
          rw [← hjo]; simp
        obtain ⟨h9, h12⟩ := h9
        split at h12
        · rename_i c ps he; exact ⟨j, o, c, ps, hjh, hgo, h9, he⟩
        · simp at h12
      · intro j oj hj hoj hd2
        rw [List.all_eq_true] at h10
        have := h10 _ (hmz j oj hj hoj)
        simp only [hd2, bne_self_eq_false, Bool.false_or] at this
        exact this
      · intro j oj hj hoj
        rw [List.all_eq_true] at h11
        have := h11 _ (hmz j oj hj hoj)
        simpa using this
    simp only [Option.some.injEq] at hd
    rename_i hc
    simp only [Bool.and_eq_true, beq_iff_eq, decide_eq_true_eq] at hc
    obtain ⟨⟨⟨⟨h1, h0⟩, h2⟩, h6⟩, h7⟩ := hc
    rw [hd] at h2
    have hmem : ∀ i o, i < h → l[i]? = some o → o ∈ l.take h := fun i o hi ho => List.mem_of_getElem? (i := i) (by rw [List.getElem?_take, if_pos hi]; exact ho)
    have hmz : ∀ i o, i < h → l[i]? = some o → (o, i) ∈ (l.take h).zipIdx := fun i o hi ho => List.mem_zipIdx_iff_getElem?.2 (by simp [List.getElem?_take, hi, ho])
    have hlz : (∀ o ∈ l.take h, lazyOp o.op = false) → lazyOne (l.take h) = true := by
      intro hh
      unfold lazyOne
      rw [List.all_eq_true]
      intro p hp
      have := hh p.1 (List.mem_of_getElem? (List.mem_zipIdx_iff_getElem?.1 hp))
      simp [this]
    rw [Bool.or_eq_true] at h2
    rcases h2 with h2 | h2
    rotate_left
    · unfold storeAt at h2
      split at h2 <;> try (simp at h2; done)
      rename_i n p u hg
      simp only [Bool.and_eq_true] at h2
      obtain ⟨⟨⟨⟨⟨⟨h2, h4⟩, h5⟩, h8⟩, h9⟩, h10⟩, h11⟩ := h2
      rw [List.all_eq_true] at h2
      have h2' : ∀ o ∈ l.take h, headOp o.op = true ∧ lazyOp o.op = false ∧ o.op.kills = none := fun o ho => by
        have := h2 o ho
        simp only [Bool.and_eq_true, Bool.not_eq_true', beq_iff_eq] at this
        exact ⟨this.1.1, this.1.2, this.2⟩
      refine ⟨drawOK_parts h1 (List.all_eq_true.2 fun o ho => (h2' o ho).1) (hlz fun o ho => (h2' o ho).2.1) h4 h5 h8 (by simpa using h6) (by omega), .inr (.inl ⟨by omega, .inr ⟨n, p, u, hg, fun i o hi ho => (h2' o (hmem i o hi ho)).2.1, fun i o hi ho => (h2' o (hmem i o hi ho)).2.2, ?_, ?_, ?_⟩⟩)⟩
      · rw [List.any_eq_true] at h9
        obtain ⟨o, ho, h9⟩ := h9
        rw [Bool.and_eq_true, beq_iff_eq] at h9
        obtain ⟨j, hj, hjo⟩ := List.getElem_of_mem ho
        have hjh : j < h := by simp at hj; omega
        have hgo : l[j]? = some o := by
          rw [List.getElem_take] at hjo
          rw [← hjo]; simp
        obtain ⟨h9, h12⟩ := h9
        split at h12
        · rename_i y k he; exact ⟨j, o, y, k, hjh, hgo, h9, he⟩
        · simp at h12
      · intro t ht j oj hj hoj hd2
        rw [List.all_eq_true] at h10
        have := h10 t ht
        rw [List.all_eq_true] at this
        have := this _ (hmz j oj hj hoj)
        simp only [hd2, bne_self_eq_false, Bool.false_or] at this
        exact this
      · intro j oj hj hoj
        rw [List.all_eq_true] at h11
        have := h11 _ (hmz j oj hj hoj)
        simpa using this
    unfold newAt at h2
    split at h2 <;> try (simp at h2; done)
    rename_i d z hg
    simp only [Bool.and_eq_true, List.all_eq_true, bne_iff_ne, ne_eq, Bool.not_eq_true'] at h2
    obtain ⟨⟨⟨h2, h4⟩, h5⟩, h8⟩ := h2
    refine ⟨drawOK_parts h1 (List.all_eq_true.2 fun o ho => (h2 o ho).1.1.1.1) ?_ h4 h5 h8 (by simpa using h6) (by omega), .inr (.inl ⟨by omega, .inl ⟨d, z, hg, fun i o hi ho => (h2 o (hmem i o hi ho)).1.1.1.2, fun i o hi ho => (h2 o (hmem i o hi ho)).1.1.2, fun i o hi ho => (h2 o (hmem i o hi ho)).1.2, fun i o hi ho => ?_⟩⟩)⟩
    · unfold lazyOne
      rw [List.all_eq_true]
      intro p hp
      have := (h2 p.1 (List.mem_of_getElem? (List.mem_zipIdx_iff_getElem?.1 hp))).1.1.1.2
      simp [this]
    · have := (h2 o (hmem i o hi ho)).2
      simpa using this
def hs (E : Env) (cf : CallF) (l : List SOp) (s0 : St) : Nat → St
  | 0 => s0
  | i + 1 => match l[i]? with
    | some o => (opRun E cf true l o (hs E cf l s0 i)).getD (hs E cf l s0 i)
    | none => hs E cf l s0 i
theorem hs_run {l : List SOp} {s0 sH : St} {h : Nat} (hl : h ≤ l.length) : ∀ (k i : Nat), i + k = h → runOps E cf true l ((l.drop i).take k) (hs E cf l s0 i) = some sH →
    (∀ j o, i ≤ j → j < h → l[j]? = some o → opRun E cf true l o (hs E cf l s0 j) = some (hs E cf l s0 (j + 1))) ∧ hs E cf l s0 h = sH
  | 0, i, hi, hr => by
    simp only [List.take_zero, runOps, Option.some.injEq] at hr
    rw [Nat.add_zero] at hi
    subst hi
    exact ⟨fun j o h1 h2 => by omega, hr⟩
  | k + 1, i, hi, hr => by
    have hil : i < l.length := by omega
    have hg : l[i]? = some l[i] := by simp [hil]
    rw [drop_cons hg, List.take_succ_cons] at hr
    simp only [runOps] at hr
    split at hr <;> try (simp at hr; done)
    rename_i s2 hs2
    have hnext : hs E cf l s0 (i + 1) = s2 := by simp only [hs, hg, hs2, Option.getD_some]
    rw [← hnext] at hr
    obtain ⟨k1, k2⟩ := hs_run hl k (i + 1) (by omega) hr
    refine ⟨fun j o h1 h2 ho => ?_, k2⟩
    by_cases hj : j = i
    · subst hj
      rw [hg] at ho
      obtain rfl := Option.some.inj ho
      rw [hnext]; exact hs2
    · exact k1 j o (by omega) h2 ho
theorem fin_bx (s : St) (d : Option Nat) (v : AV) (r : Option (Option (Nat × Loc))) : (fin s d v r).bx = s.bx ∧ ((fin s d v r).df, (fin s d v r).lk) = (s.df, s.lk) ∧ (fin s d v r).tm.length = s.tm.length := by
  cases r <;> cases d <;> simp [fin, St.put, St.set]
theorem rd_big {s : St} {t : Nat} (h : s.tm.length ≤ t) : s.rd t = .sv .undef := by
  simp only [St.rd, List.getD_eq_getElem?_getD]
  rw [List.getElem?_eq_none h]; rfl
theorem fin_rd_ne (s : St) (d : Option Nat) (v : AV) (r : Option (Option (Nat × Loc))) {t : Nat} (h : d ≠ some t) : (fin s d v r).rd t = s.rd t := by
  have key : (s.put d v).rd t = s.rd t := by
    cases d with
    | none => rfl
    | some d' =>
      simp only [St.put, St.rd, St.set, List.getD_eq_getElem?_getD, List.getElem?_set]
      rw [if_neg (by intro e; exact h (by rw [e]))]
  cases r with
  | none => exact key
  | some x => exact key
theorem fin_rd_eq (s s' : St) (v : AV) (r : Option (Option (Nat × Loc))) {t : Nat} (hl : s'.tm.length = s.tm.length) : (fin s (some t) v r).rd t = (fin s' (some t) v r).rd t := by
  have key : ∀ x : St, (fin x (some t) v r).rd t = if t < x.tm.length then v else .sv .undef := by
    intro x
    have : (fin x (some t) v r).rd t = (x.put (some t) v).rd t := by cases r <;> rfl
    rw [this]
    by_cases ht : t < x.tm.length
    · rw [St.put, rd_set x t t v ht, if_pos rfl, if_pos ht]
    · rw [if_neg ht, rd_big (by simp [St.put, St.set]; omega)]
  rw [key, key, hl]
theorem fin_lz_none (s : St) (d : Option Nat) (v : AV) (h : s.lz = none) : (fin s d v none).lz = none := by
  cases d <;> simp [fin, St.put, St.set, h, clearTmp]
theorem fin_lz_keep (s : St) (d : Option Nat) (v : AV) (h : ∀ d' ℓ, s.lz = some (d', ℓ) → d ≠ some d' ∧ ∀ t, ℓ = .tmp t → d ≠ some t) : (fin s d v none).lz = s.lz := by
  cases d with
  | none => rfl
  | some x =>
    simp only [fin, St.put, St.set]
    cases hz : s.lz with
    | none => rfl
    | some p =>
      obtain ⟨d', ℓ⟩ := p
      obtain ⟨h1, h2⟩ := h d' ℓ hz
      simp only [clearTmp]
      rw [if_neg (by intro e; exact h1 (by rw [e]))]
      cases ℓ with
      | tmp t => simp only; rw [if_neg (by intro e; exact h2 t rfl (by rw [e]))]
      | _ => rfl
theorem bits_lt {ops : Array Oper} (hback : edgesBack ops.toList = true) : ∀ k, k < ops.size → ∀ j, ((allBefore ops.toList).getD k 0).testBit j = true → j < k := by
  intro k hk j hj
  have hcl : Clo ops (Array.replicate ops.size true) := ⟨by simp, fun i' o' hi' _ e he hb => by
    have hbk := hback
    unfold edgesBack at hbk
    rw [List.all_eq_true] at hbk
    have h4 := hbk (o', i') (List.mem_zipIdx_iff_getElem?.2 (by simpa using hi'))
    simp only [Array.all_eq_true'] at h4
    have h5 : e.on < i' := by simpa [hb] using h4 e he
    have h6 := (Array.getElem?_eq_some_iff.1 hi').1
    have : e.on < ops.size := by omega
    simp [Array.getD_eq_getD_getElem?, this]⟩
  exact (hcl.bits hback k ops[k] (by simp [hk]) (fun e he hb => hcl.clo k _ (by simp [hk]) (by simp [Array.getD_eq_getD_getElem?, hk]) e he hb) j hj).2
section head
variable {ops : Array Oper} {l : List SOp} {h : Nat} {s0 : St} (hD : DrawOK ops l h) (hz0 : s0.lz = none)
  (hrun : ∀ j o, j < h → l[j]? = some o → opRun E cf true l o (hs E cf l s0 j) = some (hs E cf l s0 (j + 1)))
structure HI (E : Env) (cf : CallF) (l : List SOp) (h : Nat) (s0 : St) (p : Nat → Bool) (s : St) : Prop where
  bx : s.bx = s0.bx
  df : (s.df, s.lk) = (s0.df, s0.lk)
  len : s.tm.length = s0.tm.length
  rdN : ∀ t, (∀ i o, i < h → l[i]? = some o → o.dst = some t ∨ o.op.kills = some t → p i = false) → s.rd t = s0.rd t
  rdV : ∀ i o t, i < h → l[i]? = some o → o.dst = some t → p i = true → (∀ k ok, k < h → l[k]? = some ok → ok.op.kills = some t → p k = false) → s.rd t = (hs E cf l s0 (i + 1)).rd t
  rdK : ∀ k o t, k < h → l[k]? = some o → o.op.kills = some t → p k = true → s.rd t = .sv .undef
  lzN : (∀ i o, i < h → l[i]? = some o → lazyOp o.op = true → p i = false) → s.lz = none
  lzV : ∀ i o, i < h → l[i]? = some o → lazyOp o.op = true → p i = true → s.lz = (hs E cf l s0 (i + 1)).lz
def LzP (E : Env) (cf : CallF) (l : List SOp) (s0 : St) (k : Nat) (o : SOp) : Prop :=
  ∀ d ℓ, (hs E cf l s0 (k + 1)).lz = some (d, ℓ) → o.dst = some d ∧ ∀ t, ℓ = .tmp t → t ∈ o.looks l
theorem HI.step {p : Nat → Bool} {s : St} (hI : HI E cf l h s0 p s) {i : Nat} {o : SOp} (hS : HI E cf l h s0 (fun j => decide (j < i)) (hs E cf l s0 i)) (hD : DrawOK ops l h)
    (hrun : ∀ j o, j < h → l[j]? = some o → opRun E cf true l o (hs E cf l s0 j) = some (hs E cf l s0 (j + 1)))
    (hih : i < h) (ho : l[i]? = some o) (hu : p i = false) (hbits : ∀ j, ((allBefore ops.toList).getD i 0).testBit j = true → p j = true ∧ j < i)
    (hlater : ∀ k, k < h → p k = true → ((allBefore ops.toList).getD k 0).testBit i = true → False) (hLz : ∀ k o, k < h → l[k]? = some o → lazyOp o.op = true → p k = true → LzP E cf l s0 k o) :
    ∃ s2, opRun E cf true l o s = some s2 ∧ HI E cf l h s0 (fun j => p j || decide (j = i)) s2 ∧ (lazyOp o.op = true → LzP E cf l s0 i o) := by
  have hr := hrun i o hih ho
  have hlen : s.tm.length = (hs E cf l s0 i).tm.length := by rw [hI.len, hS.len]
  have hkl : ∀ k ok t, k < h → l[k]? = some ok → ok.op.kills = some t → t ∈ ok.looks l := by
    intro k ok t _ _ hk
    have : t ∈ ok.op.reads := by
      revert hk
      cases ok.op <;> simp only [AOp.kills, reduceCtorEq, false_implies]
      rename_i e k b d x y
      cases x <;> simp only [reduceCtorEq, false_implies, Option.some.injEq]
      rintro rfl
      simp [AOp.reads, Opd.reads]
    simp [SOp.looks, this]
  have halone : ∀ k ok t, k < h → l[k]? = some ok → ok.op.kills = some t → t ∈ o.looks l → k = i := by
    intro k ok t hk hok hkk ht
    rcases ((hD.kill k ok t hk hok hkk).2.2 i o hih ho).2 with e | e
    · exact e
    · exact absurd ht e
  have hlooks : ∀ t ∈ o.looks l, s.rd t = (hs E cf l s0 i).rd t := by
    intro t ht
    by_cases hex : ∃ j oj, j < h ∧ l[j]? = some oj ∧ oj.dst = some t
    · obtain ⟨j, oj, hj, hoj, hdj⟩ := hex
      obtain ⟨b1, b2⟩ := hbits j (hD.looks i j o oj t hih hj ho hoj ht hdj)
      rw [hI.rdV j oj t hj hoj hdj b1 (fun k ok hk hok hkk => by rw [halone k ok t hk hok hkk ht]; exact hu), hS.rdV j oj t hj hoj hdj (by simpa using b2) (fun k ok hk hok hkk => by rw [halone k ok t hk hok hkk ht]; simp)]
    · have hno : ∀ j oj, j < h → l[j]? = some oj → oj.dst ≠ some t := fun j oj h1 h2 h3 => hex ⟨j, oj, h1, h2, h3⟩
      rw [hI.rdN t (fun j oj h1 h2 h3 => by
          rcases h3 with h3 | h3
          · exact absurd h3 (hno j oj h1 h2)
          · rw [halone j oj t h1 h2 h3 ht]; exact hu), hS.rdN t (fun j oj h1 h2 h3 => by
          rcases h3 with h3 | h3
          · exact absurd h3 (hno j oj h1 h2)
          · rw [halone j oj t h1 h2 h3 ht]; simp)]
  have hlz : lazyOp o.op = true → (hs E cf l s0 i).lz = none ∧ s.lz = none := by
    intro hl
    refine ⟨hS.lzN (fun j oj hj hoj hlj => ?_), hI.lzN (fun j oj hj hoj hlj => ?_)⟩
    · have := hD.one i j o oj hih hj ho hoj hl hlj
      subst this; simp
    · have := hD.one i j o oj hih hj ho hoj hl hlj
      subst this; exact hu
  have hkz : o.op.kills ≠ none → o.guard = none ∧ (hs E cf l s0 i).lz = none ∧ s.lz = none := by
    intro hk
    obtain ⟨t, ht⟩ := Option.ne_none_iff_exists'.1 hk
    obtain ⟨k1, k2, k3⟩ := hD.kill i o t hih ho ht
    exact ⟨k1, hS.lzN (fun j oj hj hoj hlj => by rw [(k3 j oj hj hoj).1] at hlj; simp at hlj), hI.lzN (fun j oj hj hoj hlj => by rw [(k3 j oj hj hoj).1] at hlj; simp at hlj)⟩
  obtain ⟨v, r, e1, e2, e3, e4⟩ := opRun_local (s := hs E cf l s0 i) (s' := s) (e := []) (by rw [hI.bx, hS.bx, List.append_nil]) hlen hlooks (hD.head i o hih ho) hr hlz hkz
  have hfne : ∀ (x : St) t, o.op.kills ≠ some t → (x.forgetO o.op.kills).rd t = x.rd t := by
    intro x t hne
    cases hk : o.op.kills with
    | none => rfl
    | some u =>
      have : u ≠ t := fun e => hne (by rw [hk, e])
      simp only [St.forgetO, St.forget, St.rd, List.getD_eq_getElem?_getD, List.getElem?_set, if_neg this]
  have hfeq : ∀ (x : St) t, o.op.kills = some t → (x.forgetO o.op.kills).rd t = .sv .undef := by
    intro x t hk
    rw [hk]
    simp only [St.forgetO, St.forget, St.rd, List.getD_eq_getElem?_getD, List.getElem?_set, if_true]
    split <;> rfl
  refine ⟨_, e2, ?_, fun hl d ℓ hd => ?_⟩
  · obtain ⟨f1, f2, f3⟩ := fin_bx (s.forgetO o.op.kills) o.dst v r
    obtain ⟨f4, f5⟩ := forgetO_bx s o.op.kills
    have f6 := forgetO_len s o.op.kills
    refine ⟨f1.trans (f4.trans hI.bx), f2.trans (f5.trans hI.df), f3.trans (f6.trans hI.len), fun t ht => ?_, fun j oj t hj hoj hdj hpj hnk => ?_, fun k ok t hk hok hkk hpk => ?_, fun hn => ?_, fun j oj hj hoj hlj hpj => ?_⟩
    · have hne : o.dst ≠ some t := fun e => by have := ht i o hih ho (.inl e); simp at this
      have hne2 : o.op.kills ≠ some t := fun e => by have := ht i o hih ho (.inr e); simp at this
      rw [fin_rd_ne _ o.dst v r hne, hfne s t hne2]
      exact hI.rdN t (fun j oj h1 h2 h3 => by have := ht j oj h1 h2 h3; simp only [Bool.or_eq_false_iff] at this; exact this.1)
    · have hne2 : o.op.kills ≠ some t := fun e => by have := hnk i o hih ho e; simp at this
      by_cases hji : j = i
      · subst hji
        rw [ho] at hoj
        obtain rfl := Option.some.inj hoj
        rw [hdj] at e1 ⊢
        rw [e1]
        exact fin_rd_eq _ _ _ _ (by rw [forgetO_len, forgetO_len]; exact hlen.symm)
      · have hne : o.dst ≠ some t := fun e => hji (hD.dst j i oj o t hj hih hoj ho hdj e)
        rw [fin_rd_ne _ o.dst v r hne, hfne s t hne2]
        exact hI.rdV j oj t hj hoj hdj (by simpa [hji] using hpj) (fun k ok h1 h2 h3 => by have := hnk k ok h1 h2 h3; simp only [Bool.or_eq_false_iff] at this; exact this.1)
    · by_cases hki : k = i
      · subst hki
        rw [ho] at hok
        obtain rfl := Option.some.inj hok
        rw [fin_rd_ne _ o.dst v r (hD.kill k o t hk ho hkk).2.1]
        exact hfeq s t hkk
      · have hpk' : p k = true := by simpa [hki] using hpk
        have hne : o.dst ≠ some t := fun e => hlater k hk hpk' (hD.looks k i ok o t hk hih hok ho (hkl k ok t hk hok hkk) e)
        have hne2 : o.op.kills ≠ some t := fun e => hki (halone k ok t hk hok hkk (hkl i o t hih ho e))
        rw [fin_rd_ne _ o.dst v r hne, hfne s t hne2]
        exact hI.rdK k ok t hk hok hkk hpk'
    · have hlo : lazyOp o.op = false := by
        cases hl : lazyOp o.op with
        | false => rfl
        | true => have := hn i o hih ho hl; simp at this
      rw [e3 hlo]
      exact fin_lz_none _ o.dst v ((forgetO_lz s _).trans (hI.lzN (fun j oj h1 h2 h3 => by have := hn j oj h1 h2 h3; simp only [Bool.or_eq_false_iff] at this; exact this.1)))
    · by_cases hji : j = i
      · subst hji
        rw [ho] at hoj
        obtain rfl := Option.some.inj hoj
        obtain ⟨x, hx, _⟩ := e4 hlj
        rw [e1, hx]
        rfl
      · have hpj' : p j = true := by simpa [hji] using hpj
        have hlo : lazyOp o.op = false := by
          cases hl : lazyOp o.op with
          | false => rfl
          | true => exact absurd (hD.one j i oj o hj hih hoj ho hlj hl) hji
        have hsl := hI.lzV j oj hj hoj hlj hpj'
        rw [e3 hlo, fin_lz_keep (s.forgetO o.op.kills) o.dst v (fun d' ℓ hd => ?_)]
        · exact (forgetO_lz s _).trans hsl
        · rw [forgetO_lz, hsl] at hd
          obtain ⟨g1, g2⟩ := hLz j oj hj hoj hlj hpj' d' ℓ hd
          refine ⟨fun e => hji (hD.dst j i oj o d' hj hih hoj ho g1 e), fun t ht e => ?_⟩
          exact hlater j hj hpj' (hD.looks j i oj o t hj hih hoj ho (g2 t ht) e)
  · obtain ⟨x, hx, hx2⟩ := e4 hl
    rw [e1, hx] at hd
    exact hx2 d ℓ hd
include hD hz0 hrun in
theorem hs_HI : ∀ i, i ≤ h → HI E cf l h s0 (fun j => decide (j < i)) (hs E cf l s0 i) ∧ ∀ k o, k < i → l[k]? = some o → lazyOp o.op = true → LzP E cf l s0 k o
  | 0, _ => ⟨⟨rfl, rfl, rfl, fun _ _ => rfl, fun i o t _ _ _ h => by simp at h, fun i o t _ _ _ h => by simp at h, fun _ => hz0, fun i o _ _ _ h => by simp at h⟩, fun k o h => by omega⟩
  | i + 1, hi => by
    have hih : i < h := by omega
    have hil : i < l.length := by have := hD.hle; omega
    have ho : l[i]? = some l[i] := by simp [hil]
    obtain ⟨hI, hLz⟩ := hs_HI i (by omega)
    have hedge := bits_lt hD.back
    have hios : i < ops.size := by rw [← hD.len]; exact hil
    obtain ⟨s2, h1, h2, h3⟩ := HI.step (p := fun j => decide (j < i)) (s := hs E cf l s0 i) hI hI hD hrun hih ho (by simp) (fun j hj => ⟨by simpa using hedge i hios j hj, hedge i hios j hj⟩) (fun k hk hp hb => by
        have : k < i := by simpa using hp
        have := hedge k (by omega) i hb
        omega) (fun k o hk hok hlk hp => hLz k o (by simpa using hp) hok hlk)
    have h4 := hrun i _ hih ho
    rw [h4] at h1
    obtain rfl := Option.some.inj h1
    have hp : (fun j => decide (j < i) || decide (j = i)) = fun j => decide (j < i + 1) := by
      funext j
      by_cases hj : j < i
      · simp [hj]; omega
      · by_cases hj2 : j = i
        · simp [hj2]
        · simp [hj, hj2]; omega
    rw [hp] at h2
    refine ⟨h2, fun k o hk hok hlk => ?_⟩
    by_cases hki : k = i
    · subst hki
      rw [ho] at hok
      obtain rfl := Option.some.inj hok
      exact h3 hlk
    · exact hLz k o (by omega) hok hlk
end head
end Go.Ev
