/- Functions: what the evaluator comes to is what a call comes to. -/
/- How a program's functions are entered one by one. -/
/- What the evaluator answers does not hang on how long it may run; a function's own answers as its entry in the table. -/
import Derived.Test.YtgeaomghbiamgaaGreatDoorGag
set_option linter.unusedSimpArgs false
set_option linter.unusedVariables false
namespace Go.Ev
variable {P : Program} {E : Env} {cf : CallF} {γ : Gh} {a : Act} {w : World} {s : St}

/-- The table of codes is the program's. -/
def CodeT (P : Program) (E : Env) : Prop := ∀ f fn, E.code f = some fn → ∃ func : Func, P.funcs[f]? = some func ∧ (func.name == "runtime.NumGoroutine") = false ∧ cFn P func = some fn

/-- A result. -/
def ValOK (γ : Gh) (a : Act) (s : St) (v : AV) (u : Value) : Prop :=
  (∃ x, v = .sv x ∧ RepS γ.F x u) ∨ ∃ t, t < s.tm.length ∧ v = s.rd t ∧ u = a.tmps.getD t undef

theorem res_ok (hR : R P γ a w s) {r : ResultVar} {r' : ARes} (hr : cRes P r = some r') {v : AV} (hv : resOf s r' = some v) :
    ∃ u, ((match r with | .tmp t => pure (a.tmps.getD t undef) | .cell ad t => do loadVar t (← asAddr (a.tmps.getD ad undef)) : Sem Value)).run P w = .ok u w ∧ ValOK γ a s v u := by
  cases r with
  | tmp t =>
    simp only [cRes, Option.some.injEq] at hr; subst hr
    simp only [resOf, Option.some.injEq] at hv; subst hv
    refine ⟨_, rfl, ?_⟩
    by_cases ht : t < s.tm.length
    · exact .inr ⟨t, ht, rfl, rfl⟩
    · exact .inl ⟨.undef, rd_big (Nat.le_of_not_lt ht), .undef _⟩
  | cell ad t =>
    simp only [cRes, Option.map_eq_some_iff] at hr
    obtain ⟨n, hn, rfl⟩ := hr
    simp only [resOf] at hv
    split at hv <;> try (simp at hv; done)
    rename_i cs hcs
    split at hv <;> simp only [Option.some.injEq, reduceCtorEq] at hv
    rename_i x hx
    subst hv
    have hadl : ad < s.tm.length := by
      refine Decidable.byContradiction fun hn => ?_
      rw [rd_big (Nat.le_of_not_lt hn)] at hcs
      simp [cellsAt] at hcs
    obtain ⟨b, off, vs, hu, hc⟩ := cellsAt_rep hR.bx (hR.tm ad hadl) hcs
    obtain ⟨u, k1, k2⟩ := run_loadVar (P := P) (w := w) hn hc hx
    refine ⟨u, ?_, .inl ⟨x, rfl, k2⟩⟩
    simp only [hu]
    simp [asAddr, k1]

theorem mapM_ok {α : Type} {f : α → Sem Value} : ∀ {l : List α} {us : List Value}, us.length = l.length → (∀ (j : Nat) (x : α) (u : Value), l[j]? = some x → us[j]? = some u → (f x).run P w = .ok u w) → (l.mapM f).run P w = .ok us w
  | [], us, hl, _ => by
    have : us = [] := List.eq_nil_of_length_eq_zero (by simpa using hl)
    subst this; rfl
  | x :: l, us, hl, h => by
    cases us with
    | nil => simp at hl
    | cons u us =>
      rw [List.mapM_cons]
      have h1 := h 0 x u rfl rfl
      have h2 := mapM_ok (l := l) (us := us) (by simpa using hl) (fun j x u hx hu => h (j + 1) x u (by simpa using hx) (by simpa using hu))
      simp only [Sem.run_bind, h1, Result.andThen_ok, h2]
      rfl

theorem results_ok (hR : R P γ a w s) {fn : Func} {rs : List ARes} (hrs : allSome (fn.results.toList.map (cRes P)) = some rs) {vals : List AV} (hv : mapOpt (resOf s) rs = some vals) :
    ∃ us : List Value, us.length = vals.length ∧ (results fn a.tmps).run P w = .ok (if h : us.length = 1 then us[0] else .tuple us.toArray) w ∧ ∀ (j : Nat) (v : AV) (u : Value), vals[j]? = some v → us[j]? = some u → ValOK γ a s v u := by
  obtain ⟨h1, h2⟩ := allSome_spec hrs
  obtain ⟨h3, h4⟩ := mapOpt_spec hv
  have hl : rs.length = fn.results.size := by simpa using h1
  have hex : ∀ j, j < fn.results.size → ∃ u v, vals[j]? = some v ∧ ((match fn.results[j]! with | .tmp t => pure (a.tmps.getD t undef) | .cell ad t => do loadVar t (← asAddr (a.tmps.getD ad undef)) : Sem Value)).run P w = .ok u w ∧ ValOK γ a s v u := by
    intro j hj
    have h5 := h2 j rs[j] (by simp [hl, hj])
    rw [List.getElem?_map, Array.getElem?_toList, Array.getElem?_eq_getElem hj] at h5
    simp only [Option.map_some, Option.some.injEq] at h5
    obtain ⟨v, hv1, hv2⟩ := h4 j rs[j] (by simp [hl, hj])
    obtain ⟨u, k1, k2⟩ := res_ok hR h5 hv2
    refine ⟨u, v, hv1, ?_, k2⟩
    rw [getElem!_pos fn.results j hj]
    exact k1
  let ug : Nat → Value := fun j => if hj : j < fn.results.size then Classical.choose (hex j hj) else undef
  have hug : ∀ j (hj : j < fn.results.size), ∃ v, vals[j]? = some v ∧ ((match fn.results[j]! with | .tmp t => pure (a.tmps.getD t undef) | .cell ad t => do loadVar t (← asAddr (a.tmps.getD ad undef)) : Sem Value)).run P w = .ok (ug j) w ∧ ValOK γ a s v (ug j) := by
    intro j hj
    simp only [ug, dif_pos hj]
    exact Classical.choose_spec (hex j hj)
  let us : List Value := (List.range fn.results.size).map ug
  have hul : us.length = fn.results.size := by simp [us]
  have hug2 : ∀ (j : Nat) (u : Value), us[j]? = some u → j < fn.results.size ∧ u = ug j := by
    intro j u hu
    have hj : j < fn.results.size := by rw [← hul]; exact (List.getElem?_eq_some_iff.1 hu).1
    simp only [us, List.getElem?_map, List.getElem?_range hj, Option.map_some, Option.some.injEq] at hu
    exact ⟨hj, hu.symm⟩
  refine ⟨us, by rw [hul, h3, hl], ?_, fun j v u hv' hu => ?_⟩
  · unfold results
    have hm := mapM_ok (P := P) (w := w) (f := fun r : ResultVar => (match r with | .tmp t => pure (a.tmps.getD t undef) | .cell ad t => do loadVar t (← asAddr (a.tmps.getD ad undef)) : Sem Value)) (l := fn.results.toList) (us := us) (by simpa using hul) (fun j x u hx hu => by
      obtain ⟨hj, rfl⟩ := hug2 j u hu
      obtain ⟨v, _, k2, _⟩ := hug j hj
      rw [getElem!_pos fn.results j hj] at k2
      have : x = fn.results[j] := by
        rw [Array.getElem?_toList, Array.getElem?_eq_getElem hj] at hx
        exact (Option.some.inj hx).symm
      rw [this]; exact k2)
    have ha : fn.results.mapM (fun r : ResultVar => (match r with | .tmp t => pure (a.tmps.getD t undef) | .cell ad t => do loadVar t (← asAddr (a.tmps.getD ad undef)) : Sem Value)) = List.toArray <$> fn.results.toList.mapM (fun r : ResultVar => (match r with | .tmp t => pure (a.tmps.getD t undef) | .cell ad t => do loadVar t (← asAddr (a.tmps.getD ad undef)) : Sem Value)) := by
      rw [Array.mapM_eq_mapM_toList]
    have hm2 : (fn.results.mapM (fun r : ResultVar => (match r with | .tmp t => pure (a.tmps.getD t undef) | .cell ad t => do loadVar t (← asAddr (a.tmps.getD ad undef)) : Sem Value))).run P w = .ok us.toArray w := by
      rw [ha, map_eq_pure_bind]
      simp only [Sem.run_bind, hm, Result.andThen_ok, Sem.run_pure]
    simp only [Sem.run_bind]
    refine (congrArg (fun r => Result.andThen r _) hm2).trans ?_
    simp only [Result.andThen_ok, Sem.run_pure, List.size_toArray, List.getElem_toArray]
  · obtain ⟨hj, rfl⟩ := hug2 j u hu
    obtain ⟨v', k1, _, k3⟩ := hug j hj
    rw [hv'] at k1
    obtain rfl := Option.some.inj k1
    exact k3

theorem sinkL_ok : ∀ (vals : List AV) (us : List Value) (γ : Gh) (s : St) (xs : List SV) (s' : St), us.length = vals.length → sinkL s vals = some (xs, s') → R P γ a w s → (∀ (j : Nat) (v : AV) (u : Value), vals[j]? = some v → us[j]? = some u → ValOK γ a s v u) →
    ∃ γ', R P γ' a w s' ∧ Ext γ w γ' w ∧ xs.length = us.length ∧ ∀ (j : Nat) (x : SV) (u : Value), xs[j]? = some x → us[j]? = some u → RepS γ'.F x u
  | [], us, γ, s, xs, s', hl, h, hR, _ => by
    simp only [sinkL, Option.some.injEq, Prod.mk.injEq] at h
    obtain ⟨rfl, rfl⟩ := h
    exact ⟨γ, hR, Ext.refl _ _, by simpa using hl.symm, by simp⟩
  | v :: vals, us, γ, s, xs, s', hl, h, hR, hv => by
    cases us with
    | nil => simp at hl
    | cons u us =>
      simp only [sinkL] at h
      split at h <;> try (simp at h; done)
      rename_i x s2 hx
      split at h <;> simp only [Option.some.injEq, Prod.mk.injEq, reduceCtorEq] at h
      rename_i xs2 s3 hxs
      obtain ⟨rfl, rfl⟩ := h
      have h1 : ∃ ℓ, RepA P γ w ℓ v u := by
        rcases hv 0 v u rfl rfl with ⟨y, rfl, hr⟩ | ⟨t, ht, rfl, rfl⟩
        · exact ⟨.ret, .sv _ _ _ hr⟩
        · exact ⟨.tmp t, hR.tm t ht⟩
      obtain ⟨ℓ, hrep⟩ := h1
      obtain ⟨γ1, k1, k2, k3, k4, k5, k6, _⟩ := sink_ok hR hrep hx
      obtain ⟨γ2, g1, g2, g3, g4⟩ := sinkL_ok vals us γ1 s2 xs2 s3 (by simpa using hl) hxs k1 (fun j v' u' hv' hu' => by
        rcases hv (j + 1) v' u' (by simpa using hv') (by simpa using hu') with ⟨y, rfl, hr⟩ | ⟨t, ht, rfl, rfl⟩
        · exact .inl ⟨y, rfl, hr.mono k2.F⟩
        · exact .inr ⟨t, by rw [k5]; exact ht, (rd_of_tm k5 t).symm, rfl⟩)
      refine ⟨γ2, g1, k2.trans g2, by simp [g3], fun j y u' hy hu' => ?_⟩
      cases j with
      | zero =>
        simp only [List.getElem?_cons_zero, Option.some.injEq] at hy hu'
        subst hy; subst hu'
        exact k3.mono g2.F
      | succ j => exact g4 j y u' (by simpa using hy) (by simpa using hu')

theorem leaves_ok (hQ : QuietOK P E) {fn : Func} {tmps : Array Value} {Rr : Ending → World → Prop} {v : Value} (hr : (results fn tmps).run P w = .ok v w) (hRr : Rr (.returned v) w) :
    ∀ (ds : List Deferred) (ks : List Nat), ks.length = ds.length → (∀ (i d : Nat) (c : Deferred), ks[i]? = some d → ds[i]? = some c → RepD d c) → ks.all E.quiet = true → Leaves P fn tmps Rr ds .returning w
  | [], _, _, _, _ => ⟨v, hr, hRr⟩
  | c :: ds, ks, hl, hrep, hall => by
    cases ks with
    | nil => simp at hl
    | cons k ks =>
      simp only [List.all_cons, Bool.and_eq_true] at hall
      obtain ⟨cap, hc⟩ := hrep 0 k c rfl rfl
      obtain ⟨h1, h2⟩ := hQ k hall.1 (c.args ++ cap) w
      refine ⟨by simp, .func k, cap, k, c.args ++ cap, hc, ?_, h2.mono ?_⟩
      · rw [hc]; simp only [invoke]; exact h1
      · rintro e u' w' ⟨⟨v', rfl⟩, hu', hw'⟩
        rw [hu', hw']
        exact leaves_ok hQ hr hRr ds ks (by simpa using hl) (fun i d c hd hc => hrep (i + 1) d c (by simpa using hd) (by simpa using hc)) hall.2

/-- A function's call, by its own code. -/
theorem fn_ok (hm : P.follows .mixedOrders = true) (hT : CodeT P E) (hQ : QuietOK P E) (hP : PureOK P E) (hC : CfOK P E cf) {n : Nat} {f : FuncId} {fn : AFn} (hf : E.code f = some fn) {args : List AV} {bx : List Box} {e : AExit} (he : e = .normal ∨ e = .ret) {s1 : St} (hev : evC E cf n fn.body (enter fn args bx) = some (e, s1))
    {v : AV} {s' : St} (hend : endOf E fn s1 = some (v, s')) (hG : GlobOK E γ) (hb : BoxesOK P γ w bx) {us : Array Value} (hs : us.size = args.length) (hr : ∀ (j : Nat) (x : AV), args[j]? = some x → x.isOwn = false ∧ RepA P γ w .ret x (us.getD j undef)) :
    CallOK P f us w fun u w' => ∃ γ', BoxesOK P γ' w' s'.bx ∧ Ext γ w γ' w' ∧ RepA P γ' w' .ret v u ∧ (v.isOwn = false → ∃ a', R P γ' a' w' s') := by
  obtain ⟨func, hfun, hname, hcf⟩ := hT f fn hf
  unfold cFn at hcf
  split at hcf <;> try (simp at hcf; done)
  rename_i c hbody
  split at hcf <;> simp only [Option.some.injEq, reduceCtorEq] at hcf
  rename_i ab rs hab hrs
  subst hcf
  have h1 : func.name ≠ "runtime.NumGoroutine" := by simpa using hname
  refine .inr ⟨f, us, by simp [callFunc, hfun, h1, hbody], ?_⟩
  refine calls_of_wp_defers hfun hbody ?_
  have hR : R P γ { tmps := us ++ Array.replicate (func.ntmps - us.size) undef, defers := [] } w (enter { ntmps := func.ntmps, results := rs, body := (ann func.ntmps (resMask rs) ab (resMask rs) []).1, lk := lkOf (muOf P c) ab, mu := muOf P c } args bx) := by
    refine ⟨hb, by simp [enter, hs], fun t ht => ?_, by simp [enter], rfl, by simp [enter]⟩
    simp only [enter, List.length_append, List.length_replicate] at ht
    by_cases htl : t < args.length
    · obtain ⟨k1, k2⟩ := hr t args[t] (by simp [htl])
      have h2 : (enter { ntmps := func.ntmps, results := rs, body := (ann func.ntmps (resMask rs) ab (resMask rs) []).1, lk := lkOf (muOf P c) ab, mu := muOf P c } args bx).rd t = args[t] := by
        simp only [enter, St.rd, List.getD_eq_getElem?_getD]
        rw [List.getElem?_append_left htl]; simp [htl]
      have h3 : (us ++ Array.replicate (func.ntmps - us.size) undef).getD t undef = us.getD t undef := by
        simp only [Array.getD_eq_getD_getElem?]
        rw [Array.getElem?_append_left (by omega)]
      rw [h2, h3]
      exact k2.keepN k1 (fun _ _ _ h => h) (fun _ _ h => h)
    · have h2 : (enter { ntmps := func.ntmps, results := rs, body := (ann func.ntmps (resMask rs) ab (resMask rs) []).1, lk := lkOf (muOf P c) ab, mu := muOf P c } args bx).rd t = .sv .undef := by
        simp only [enter, St.rd, List.getD_eq_getElem?_getD]
        rw [List.getElem?_append_right (by omega), List.getElem?_replicate]
        split <;> rfl
      rw [h2]
      exact .sv _ _ _ (.undef _)
  refine code_ok hm hP hC n c ab hab _ _ _ _ γ _ w _ e s1 _ hev hR hG (fun γ1 a1 w1 he1 hR1 => ?_)
  unfold endOf at hend
  split at hend <;> try (simp at hend; done)
  rename_i hquiet
  obtain ⟨γ3, hR3, he3, htm3, hdf3, hβ3⟩ := tidyIf_ok (lkOf (muOf P c) ab) hR1
  have key : ∃ u, (results func a1.tmps).run P w1 = .ok u w1 ∧ ∃ γ', BoxesOK P γ' w1 s'.bx ∧ Ext γ w γ' w1 ∧ RepA P γ' w1 .ret v u ∧ (v.isOwn = false → ∃ a', R P γ' a' w1 s') := by
    split at hend
    · rename_i v0 hvals
      simp only [Option.some.injEq, Prod.mk.injEq] at hend
      obtain ⟨rfl, rfl⟩ := hend
      obtain ⟨ul, k1, k2, k3⟩ := results_ok hR3 hrs hvals
      simp only [List.length_singleton] at k1
      rw [dif_pos k1] at k2
      refine ⟨_, k2, ?_⟩
      rcases k3 0 v0 ul[0] rfl (by simp) with ⟨x, rfl, hx⟩ | ⟨t, ht, hv0, hu⟩
      · exact ⟨γ3, hR3.bx, he1.trans he3, .sv _ _ _ hx, fun _ => ⟨a1, hR3⟩⟩
      · -- the value leaves its temporary
        have hv := hR3.tm t ht
        rw [← hv0, ← hu] at hv
        cases hown : v0.isOwn with
        | false => exact ⟨γ3, hR3.bx, he1.trans he3, hv.keepN hown (fun _ _ _ h => h) (fun _ _ h => h), fun _ => ⟨a1, hR3⟩⟩
        | true => exact ⟨γ3.mv (.tmp t) .ret, hR3.bx.mv (by simp), (he1.trans he3).trans (Gh.mv_ext _ _ _ _), hv.mv_same, by simp⟩
    · rename_i vals hne hvals
      split at hend <;> simp only [Option.some.injEq, Prod.mk.injEq, reduceCtorEq] at hend
      rename_i xs s2 hsink
      obtain ⟨rfl, rfl⟩ := hend
      obtain ⟨ul, k1, k2, k3⟩ := results_ok hR3 hrs hvals
      have hn1 : ul.length ≠ 1 := by
        intro h1
        rw [k1] at h1
        match vals, h1 with
        | [v0], _ => exact hne v0 rfl
      rw [dif_neg hn1] at k2
      obtain ⟨γ2, g1, g2, g3, g4⟩ := sinkL_ok vals ul γ3 (s1.tidyIf (lkOf (muOf P c) ab)) xs s2 k1 hsink hR3 k3
      refine ⟨_, k2, γ2, g1.bx, (he1.trans he3).trans g2, .sv _ _ _ (.tup _ _ (by simp [g3]) (fun j x hx => ?_)), fun _ => ⟨a1, g1⟩⟩
      have hj : j < ul.length := by rw [← g3]; exact (List.getElem?_eq_some_iff.1 hx).1
      have := g4 j x ul[j] hx (by simp [hj])
      simpa [Array.getD_eq_getD_getElem?, hj] using this
    · simp at hend
  obtain ⟨u, hru, hpost⟩ := key
  have hl : Leaves P func a1.tmps (fun e w' => ∃ v_1, e = .returned v_1 ∧ ∃ γ', BoxesOK P γ' w' s'.bx ∧ Ext γ w γ' w' ∧ RepA P γ' w' .ret v v_1 ∧ (v.isOwn = false → ∃ a', R P γ' a' w' s')) a1.defers .returning w1 :=
    leaves_ok hQ hru ⟨u, rfl, hpost⟩ a1.defers s1.df hR1.dl hR1.df hquiet
  rcases he with rfl | rfl <;> exact hl

/-- A function in its caller's boxes. -/
theorem evF_ok (hm : P.follows .mixedOrders = true) (hT : CodeT P E) (hQ : QuietOK P E) (hP : PureOK P E) : ∀ n, CfOK P E (evF E n)
  | 0 => fun f args bx r bx' h => by simp [evF] at h
  | n + 1 => fun f args bx r bx' h γ w us hG hb hs hr => by
    simp only [evF] at h
    split at h <;> try (simp at h; done)
    rename_i fn hf
    have hgo : ∀ (e : AExit) (s1 : St), (e = .normal ∨ e = .ret) → evC E (evF E n) n fn.body (enter fn args bx) = some (e, s1) → (match endOf E fn s1 with | some (v, s') => some (v, s'.bx) | none => none) = some (r, bx') →
        CallOK P f us w fun v w' => ∃ γ', BoxesOK P γ' w' bx' ∧ Ext γ w γ' w' ∧ RepA P γ' w' .ret r v := by
      intro e s1 he hev hh
      split at hh <;> simp only [Option.some.injEq, Prod.mk.injEq, reduceCtorEq] at hh
      rename_i v s' hend
      obtain ⟨rfl, rfl⟩ := hh
      exact (fn_ok hm hT hQ hP (evF_ok hm hT hQ hP n) hf he hev hend hG hb hs hr).mono fun u w' ⟨γ', k1, k2, k3, _⟩ => ⟨γ', k1, k2, k3⟩
    split at h
    · rename_i s1 hev; exact hgo _ s1 (.inl rfl) hev h
    · rename_i s1 hev; exact hgo _ s1 (.inr rfl) hev h
    · simp at h

/-- A function as one that only computes. -/
theorem evP_ok (hm : P.follows .mixedOrders = true) (hT : CodeT P E) (hQ : QuietOK P E) (hP : PureOK P E) (n : Nat) (f : FuncId) : PureFn P E f (evP E n f) := by
  intro vs r h F0 w us hG hF hs hr
  let γ : Gh := ⟨F0, [], fun _ => none, fun _ => none⟩
  have hb : BoxesOK P γ w [] := ⟨rfl, by simp, by simp [γ], hF, by simp [γ], by simp [γ]⟩
  unfold evP at h
  split at h <;> try (simp at h; done)
  rename_i fn hf
  have hgo : ∀ (e : AExit) (s1 : St), (e = .normal ∨ e = .ret) → evC E (evF E n) n fn.body (enter fn (vs.map .sv) []) = some (e, s1) → (match endOf E fn s1 with
      | some (v, s') => match v with
        | .own e xs => some (.own e xs)
        | .sv x => some (.sv x)
        | v => match sink s' v with
          | some (x, _) => some (.sv x)
          | none => none
      | none => none) = some r → CallOK P f us w fun v w' => ∃ γ', Fresh γ w γ' w' ∧ RepA P γ' w' .ret r v := by
    intro e s1 he hev hh
    split at hh <;> try (simp at hh; done)
    rename_i v s' hend
    refine (fn_ok (γ := γ) hm hT hQ hP (evF_ok hm hT hQ hP n) hf he hev hend hG hb (by simp [hs]) (fun j x hx => ?_)).mono ?_
    · rw [List.getElem?_map] at hx
      obtain ⟨y, hy, rfl⟩ := Option.map_eq_some_iff.1 hx
      exact ⟨rfl, .sv _ _ _ (hr j y hy)⟩
    · rintro u w' ⟨γ1, hb1, he1, hrep, hRx⟩
      have fin : ∀ (γ2 : Gh), Ext γ w γ2 w' → (∀ b o v, γ2.F b o v → w'.cell? ⟨b, o, none⟩ = some v) → (∀ b ℓ, γ2.ow b = some ℓ → b < w'.heap.size) → RepA P γ2 w' .ret r u → (∀ i off, r ≠ .ptr i off) → (∀ i n k, r ≠ .mrow i n k) → (∀ i n k e, r ≠ .grw i n k e) → (∀ f a b, r ≠ .clo f a b) → ∃ γ', Fresh γ w γ' w' ∧ RepA P γ' w' .ret r u := by
        intro γ2 he2 hF2 how hrep2 h1 h2 h4 h3
        let γ' : Gh := { F := γ2.F, β := [], ow := fun b => if γ2.ow b = some .ret then some .ret else none, sh := fun _ => none }
        refine ⟨γ', ⟨he2.os, he2.tape, he2.output, he2.size, fun b hb => he2.blk b ⟨hb, by simp [γ], rfl⟩, he2.F, fun b o v hb h => he2.Fnew b o v ⟨hb, by simp [γ], rfl⟩ h, hF2, rfl, rfl, fun b hb => ?_, fun b ℓ hl ho => ?_⟩, ?_⟩
        · simp only [γ', γ, he2.own b ⟨hb, by simp [γ], rfl⟩]; rfl
        · simp only [γ'] at ho
          split at ho <;> simp only [Option.some.injEq, reduceCtorEq] at ho
          rename_i hob
          exact ⟨how b _ hob, ho.symm⟩
        · cases r with
          | sv x => exact .sv _ _ _ hrep2.sv_inv
          | own e xs =>
            cases hrep2 with
            | own _ _ _ hO => exact .own _ _ _ _ (RepO.keep (γ' := γ') hO (fun _ _ _ h => h) (fun g _ hg => ⟨rfl, fun _ _ h => h, by simp [γ', hg]⟩))
          | ptr i off => exact absurd rfl (h1 i off)
          | mrow i n k => exact absurd rfl (h2 i n k)
          | grw i n k e => exact absurd rfl (h4 i n k e)
          | clo f a b => exact absurd rfl (h3 f a b)
      have hsink : ∀ x s2, v.isOwn = false → sink s' v = some (x, s2) → r = .sv x → ∃ γ', Fresh γ w γ' w' ∧ RepA P γ' w' .ret r u := by
        intro x s2 hown hx hrx
        subst hrx
        obtain ⟨a', hR'⟩ := hRx hown
        obtain ⟨γ2, k1, k2, k3, _⟩ := sink_ok hR' hrep hx
        exact fin γ2 (he1.trans k2) k1.bx.Fw (fun b ℓ h => (k1.bx.ow b ℓ h).1) (.sv _ _ _ k3) (by simp) (by simp) (by simp) (by simp)
      cases v with
      | own e xs =>
        simp only [Option.some.injEq] at hh
        subst hh
        exact fin γ1 he1 hb1.Fw (fun b ℓ h => (hb1.ow b ℓ h).1) hrep (by simp) (by simp) (by simp) (by simp)
      | sv x =>
        simp only [Option.some.injEq] at hh
        subst hh
        exact fin γ1 he1 hb1.Fw (fun b ℓ h => (hb1.ow b ℓ h).1) hrep (by simp) (by simp) (by simp) (by simp)
      | _ =>
        simp only at hh
        split at hh <;> simp only [Option.some.injEq, reduceCtorEq] at hh
        rename_i x s2 hx
        exact hsink x s2 rfl hx hh.symm
  split at h
  · rename_i s1 hev; exact hgo _ s1 (.inl rfl) hev h
  · rename_i s1 hev; exact hgo _ s1 (.inr rfl) hev h
  · simp at h

end Go.Ev

set_option linter.unusedSimpArgs false
set_option linter.unusedVariables false
namespace Go.Ev
variable {P : Program} {E : Env}

def codeOf (P : Program) (f : Nat) : Option AFn := (P.funcs[f]? : Option Func).bind fun fn => if fn.name == "runtime.NumGoroutine" then none else cFn P fn

theorem codeT_of (h : ∀ f fn, E.code f = some fn → codeOf P f = some fn) : CodeT P E := by
  intro f fn hf
  have := h f fn hf
  unfold codeOf at this
  cases hg : (P.funcs[f]? : Option Func) with
  | none => rw [hg] at this; simp at this
  | some func =>
    rw [hg] at this
    simp only [Option.bind_some] at this
    split at this
    · simp at this
    · rename_i hn
      exact ⟨func, rfl, by simpa using hn, this⟩

def Env.add (E : Env) (f : Nat) (F : List SV → Option AV) : Env := { E with pure := fun g => if g = f then some F else E.pure g }

theorem PureFn.glob {E' : Env} {f : Nat} {F : List SV → Option AV} (h : PureFn P E f F) (hg : E'.glob = E.glob) : PureFn P E' f F := by
  intro vs r hF F0 w us hG
  exact h vs r hF F0 w us (fun g => by have := hG g; rw [hg] at this; exact this)

theorem PureOK.add (h : PureOK P E) {f : Nat} {F : List SV → Option AV} (hF : PureFn P E f F) : PureOK P (E.add f F) := by
  refine ⟨fun g G hg => ?_, fun g k hg => h.2 g k hg⟩
  simp only [Env.add] at hg
  split at hg
  · rename_i e; subst e
    simp only [Option.some.injEq] at hg
    subst hg
    exact hF.glob rfl
  · exact (h.1 g G hg).glob rfl

theorem PureFn.mono {f : Nat} {F F' : List SV → Option AV} (h : PureFn P E f F) (hle : ∀ vs r, F' vs = some r → F vs = some r) : PureFn P E f F' :=
  fun vs r hr => h vs r (hle vs r hr)

/-- A slice that a function answers, whoever owns it. -/
theorem RepA.weak {γ : Gh} {w : World} {ℓ : Loc} {r : AV} {xs : List SV} {v : Value} (h : RepA P γ w ℓ r v) (hr : r.elems = some xs) : RepA P γ w ℓ (.sv (.sl xs)) v := .sv _ _ _ (h.elems hr)

/-- A result that says less. -/
def AV.weak (r' r : AV) : Prop := r' = r ∨ ∃ xs, r = .sv (.sl xs) ∧ r'.elems = some xs

theorem PureFn.of {f : FuncId} {F : List SV → Option AV} (hm : P.follows .mixedOrders = true) (hT : CodeT P E) (hQ : QuietOK P E) (hP : PureOK P E) (h : ∀ vs r, F vs = some r → ∃ n r', evP E n f vs = some r' ∧ r'.weak r) : PureFn P E f F := by
  intro vs r hF F0 w us hG hFw hs hr
  obtain ⟨n, r', hn, hw⟩ := h vs r hF
  refine (evP_ok hm hT hQ hP n f vs r' hn F0 w us hG hFw hs hr).mono ?_
  rintro v w' ⟨γ', h1, h2⟩
  rcases hw with rfl | ⟨xs, rfl, hx⟩
  · exact ⟨γ', h1, h2⟩
  · exact ⟨γ', h1, h2.weak hx⟩

/-- A function that calls itself: at arguments of a smaller size. -/
theorem PureFn.of_rec {f : FuncId} {F : List SV → Option AV} (size : List SV → Nat) (hm : P.follows .mixedOrders = true) (hT : CodeT P E) (hQ : QuietOK P E) (hP : PureOK P E)
    (h : ∀ m vs r, F vs = some r → size vs = m → ∃ n r', evP (E.add f (fun us => if size us < m then F us else none)) n f vs = some r' ∧ r'.weak r) : PureFn P E f F := by
  classical
  have key : ∀ m, PureFn P E f (fun us => if size us < m then F us else none) := by
    intro m
    induction m with
    | zero => intro vs r hF; simp at hF
    | succ m ih =>
      intro vs r hF
      simp only at hF
      split at hF
      · rename_i hlt
        by_cases hm' : size vs = m
        · have hP' := hP.add ih
          have := PureFn.of (E := E.add f (fun us => if size us < m then F us else none)) (F := fun us => if us = vs then some r else none) hm (fun g fn hg => hT g fn hg) (fun g hg => hQ g hg) hP' (fun us r2 hr2 => by
            by_cases e : us = vs
            · subst e
              simp only [if_true, Option.some.injEq] at hr2
              subst hr2
              exact h m us _ hF hm'
            · simp [e] at hr2)
          exact (this.glob (E' := E) rfl) vs r (by simp)
        · exact ih vs r (by simp only; rw [if_pos (by omega)]; exact hF)
      · simp at hF
  intro vs r hF
  exact key (size vs + 1) vs r (by simp [hF])

/-! ### Loops -/

theorem rounds_step {b : St → Option (AExit × St)} {n : Nat} {s s1 : St} (h : b s = some (.normal, s1)) : rounds b (n + 1) s = rounds b n s1 := by
  simp only [rounds, h]

theorem rounds_out {b : St → Option (AExit × St)} {n : Nat} {s s1 : St} {e : AExit} (h : b s = some (e, s1)) (he : e ≠ .normal) : rounds b (n + 1) s = some (e, s1) := by
  simp only [rounds, h]
  cases e with
  | normal => exact absurd rfl he
  | _ => rfl

attribute [simp] doAppM St.sinkArg St.sinkArgs chunk evC keepNil keepAgg keepMu runOps pre St.settle opRun wants stepOp stepV enter Opd.ev St.rd AV.copy St.put St.set clearTmp lazyAfter St.tidyIf tidyBs tidyCs tidy1 AV.str? AV.sv? AV.bool? AV.int? AV.elems AV.arg St.kill optInt upTo endOf St.tidyIf tidyBs tidyCs tidy1 tidyR1 linkAt tidyAt tidyHead mapOpt resOf sink sinkQ sinks sinkL SV.can SV.can0 argSV target St.disown Opd.disown appBase doApp doCall cellsAt takeN addrPlus fillS splice doStore doLook setCells Box.cells Cell.plain uni SV.cells AV.nil? below Env.add binSV

end Go.Ev

set_option linter.unusedSimpArgs false
set_option linter.unusedVariables false
namespace Go.Ev
variable {P : Program} {E : Env}

def CfLe (cf cf' : CallF) : Prop := ∀ f args bx r, cf f args bx = some r → cf' f args bx = some r

theorem doCall_mono {cf cf' : CallF} (h : CfLe cf cf') {q : Bool} {f : Nat} {args : List AV} {bx : List Box} {r : AV × List Box} (hr : doCall E cf q f args bx = some r) : doCall E cf' q f args bx = some r := by
  unfold doCall at hr ⊢
  split
  · rename_i F hF
    rw [hF] at hr; exact hr
  · rename_i hF
    rw [hF] at hr
    simp only at hr
    split
    · rename_i hq; rw [if_pos hq] at hr; exact hr
    · rename_i hq; rw [if_neg hq] at hr; exact h _ _ _ _ hr

theorem stepV_mono {cf cf' : CallF} (h : CfLe cf cf') {q : Bool} {d : Option Nat} {s : St} {op : AOp} {r : AV × St} (hr : stepV E cf q d s op = some r) : stepV E cf' q d s op = some r := by
  cases op
  case call f args =>
    simp only [stepV] at hr ⊢
    split at hr <;> try (simp at hr; done)
    split at hr <;> try (simp at hr; done)
    rename_i h1 _ _ _ h2
    rw [doCall_mono h h2]
    exact hr
  all_goals exact hr

theorem opRun_mono {cf cf' : CallF} (h : CfLe cf cf') {q : Bool} {all : List SOp} {o : SOp} {s s' : St} (hr : opRun E cf q all o s = some s') : opRun E cf' q all o s = some s' := by
  unfold opRun at hr ⊢
  split at hr
  · unfold stepOp at hr ⊢
    split at hr
    · rename_i h2
      rw [stepV_mono h h2]
      exact hr
    · simp at hr
  · exact hr
  · simp at hr

theorem runOps_mono {cf cf' : CallF} (h : CfLe cf cf') {q : Bool} {all : List SOp} : ∀ {ops : List SOp} {s s' : St}, runOps E cf q all ops s = some s' → runOps E cf' q all ops s = some s'
  | [], _, _, hr => hr
  | o :: ops, s, s', hr => by
    simp only [runOps] at hr ⊢
    split at hr
    · rename_i h2
      rw [opRun_mono h h2]
      exact runOps_mono h hr
    · simp at hr

theorem rounds_mono {b b' : St → Option (AExit × St)} (h : ∀ s r, b s = some r → b' s = some r) : ∀ {n m : Nat} {s : St} {r : AExit × St}, n ≤ m → rounds b n s = some r → rounds b' m s = some r
  | 0, _, _, _, _, hr => by simp [rounds] at hr
  | n + 1, 0, _, _, hle, _ => by omega
  | n + 1, m + 1, s, r, hle, hr => by
    simp only [rounds] at hr ⊢
    cases hb : b s with
    | none => rw [hb] at hr; simp at hr
    | some p =>
      rw [h s p hb]
      rw [hb] at hr
      obtain ⟨e, s1⟩ := p
      cases e with
      | normal => exact rounds_mono h (by omega) hr
      | exit id => exact hr
      | ret => exact hr

theorem evC_mono {cf cf' : CallF} (h : CfLe cf cf') {n m : Nat} (hnm : n ≤ m) : ∀ {c : ACode} {s : St} {r : AExit × St}, evC E cf n c s = some r → evC E cf' m c s = some r := by
  intro c
  induction c with
  | skip => intro s r hr; exact hr
  | region hd ops =>
    intro s r hr
    simp only [evC] at hr ⊢
    split at hr
    · rename_i h1
      rw [runOps_mono h h1]
      simp only
      split at hr
      · rename_i h2
        rw [runOps_mono h h2]
        exact hr
      · simp at hr
    · simp at hr
  | seq a b iha ihb =>
    intro s r hr
    simp only [evC] at hr ⊢
    cases ha : evC E cf n a s with
    | none => rw [ha] at hr; simp at hr
    | some p =>
      rw [iha ha]
      rw [ha] at hr
      obtain ⟨e, s1⟩ := p
      cases e with
      | normal => exact ihb hr
      | exit id => exact hr
      | ret => exact hr
  | cond c t e iht ihe =>
    intro s r hr
    simp only [evC] at hr ⊢
    split at hr
    · rename_i b hb
      split at hr
      · rename_i hb'; rw [if_pos hb']; exact iht hr
      · rename_i hb'; rw [if_neg hb']; exact ihe hr
    · simp at hr
  | block id b ih =>
    intro s r hr
    simp only [evC] at hr ⊢
    cases hb : evC E cf n b s with
    | none => rw [hb] at hr; simp at hr
    | some p =>
      rw [ih hb]
      rw [hb] at hr
      exact hr
  | loop b ih =>
    intro s r hr
    simp only [evC] at hr ⊢
    exact rounds_mono (fun s r hb => ih hb) hnm hr
  | exit id => intro s r hr; exact hr
  | scope b ih => intro s r hr; exact ih hr
  | ret => intro s r hr; exact hr
  | kill ts => intro s r hr; exact hr
  | bad => intro s r hr; exact hr

theorem evF_mono : ∀ {n m : Nat}, n ≤ m → CfLe (evF E n) (evF E m)
  | 0, _, _ => fun f args bx r hr => by simp [evF] at hr
  | n + 1, 0, hle => by omega
  | n + 1, m + 1, hle => fun f args bx r hr => by
    simp only [evF] at hr ⊢
    split
    · rename_i fn hf
      rw [hf] at hr
      simp only at hr
      cases hb : evC E (evF E n) n fn.body (enter fn args bx) with
      | none => rw [hb] at hr; simp at hr
      | some p =>
        rw [evC_mono (evF_mono (by omega)) (by omega) hb]
        rw [hb] at hr
        exact hr
    · rename_i hf
      rw [hf] at hr; simp at hr

theorem evP_mono {n m : Nat} (hle : n ≤ m) {f : Nat} {vs : List SV} {r : AV} (hr : evP E n f vs = some r) : evP E m f vs = some r := by
  unfold evP at hr ⊢
  split
  · rename_i fn hf
    rw [hf] at hr
    simp only at hr
    cases hb : evC E (evF E n) n fn.body (enter fn (vs.map .sv) []) with
    | none => rw [hb] at hr; simp at hr
    | some p =>
      rw [evC_mono (evF_mono hle) hle hb]
      rw [hb] at hr
      exact hr
  · rename_i hf
    rw [hf] at hr; simp at hr

theorem evP_det {n m : Nat} {f : Nat} {vs : List SV} {r r' : AV} (h : evP E n f vs = some r) (h' : evP E m f vs = some r') : r = r' := by
  have h1 := evP_mono (Nat.le_max_left n m) h
  have h2 := evP_mono (Nat.le_max_right n m) h'
  rw [h1] at h2
  exact Option.some.inj h2

/-- A list, whoever owns it. -/
def AV.weaken (r : AV) : AV := match r.elems with
  | some xs => .sv (.sl xs)
  | none => r

open Classical in
/-- What a function answers by its own code. -/
noncomputable def autoF (E : Env) (f : Nat) (vs : List SV) : Option AV := if h : ∃ r, ∃ n, evP E n f vs = some r then some (Classical.choose h).weaken else none

theorem autoF_eq {n f : Nat} {vs : List SV} {r : AV} (h : evP E n f vs = some r) : autoF E f vs = some r.weaken := by
  unfold autoF
  have hex : ∃ r, ∃ n, evP E n f vs = some r := ⟨r, n, h⟩
  rw [dif_pos hex]
  obtain ⟨m, hm⟩ := Classical.choose_spec hex
  rw [evP_det hm h]

theorem autoF_sv {n f : Nat} {vs : List SV} {v : SV} (h : evP E n f vs = some (.sv v)) (hv : AV.elems (.sv v) = none) : autoF E f vs = some (.sv v) := by
  rw [autoF_eq h]
  unfold AV.weaken
  rw [hv]

theorem autoF_sl {n f : Nat} {vs : List SV} {r : AV} {xs : List SV} (h : evP E n f vs = some r) (hv : r.elems = some xs) : autoF E f vs = some (.sv (.sl xs)) := by
  rw [autoF_eq h]
  unfold AV.weaken
  rw [hv]

/-- The table's answer of a function, and what is known of it. -/
def Has (E : Env) (f : Nat) (Q : (List SV → Option AV) → Prop) : Prop := ∃ F, E.pure f = some F ∧ Q F

theorem PureFn.auto {f : FuncId} (hm : P.follows .mixedOrders = true) (hT : CodeT P E) (hQ : QuietOK P E) (hP : PureOK P E) : PureFn P E f (autoF E f) := by
  refine PureFn.of hm hT hQ hP fun vs r hF => ?_
  unfold autoF at hF
  split at hF
  · rename_i hex
    simp only [Option.some.injEq] at hF
    obtain ⟨m, hm'⟩ := Classical.choose_spec hex
    refine ⟨m, _, hm', ?_⟩
    subst hF
    unfold AV.weaken
    split
    · rename_i xs hxs
      exact .inr ⟨xs, rfl, hxs⟩
    · exact .inl rfl
  · simp at hF

end Go.Ev
