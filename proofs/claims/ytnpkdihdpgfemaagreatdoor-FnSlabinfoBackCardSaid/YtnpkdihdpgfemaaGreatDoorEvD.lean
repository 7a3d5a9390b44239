/- Calls: what is asked of a called function, and one operation with what follows it. -/
/- Regions in the text's order. -/
/- What only computes looks at its operands alone. -/
/- Regions that draw their order. -/
/- Regions that draw their order: every order comes to the text's order. -/
/- Regions that draw their order, whatever is drawn. -/
/- Code: what the evaluator comes to is what the code comes to. -/
/- Functions: what the evaluator comes to is what a call comes to. -/
/- How a program's functions are entered one by one. -/
/- What the evaluator answers does not hang on how long it may run; a function's own answers as its entry in the table. -/
import Derived.Test.YtnpkdihdpgfemaaGreatDoorEvC
import Derived.Scope
import Derived.LoopN
set_option linter.unusedSimpArgs false
set_option linter.unusedVariables false
namespace Go.Ev
variable {P : Program} {E : Env} {γ : Gh} {a : Act} {w : World} {s : St} {o : Oper} {cf : CallF} {q : Bool} {s1 : St} {av : AV}

/-- The call comes to a value. -/
def CallOK (P : Program) (f : FuncId) (args : Array Value) (w : World) (Post : Value → World → Prop) : Prop :=
  (∃ v w', (callFunc f args).run P w = .ok (.value v) w' ∧ Post v w') ∨
  ∃ g as, (callFunc f args).run P w = .ok (.enter g as) w ∧ Calls P g as w fun e w' => ∃ v, e = .returned v ∧ Post v w'

theorem CallOK.mono {f : FuncId} {args : Array Value} {Post Post' : Value → World → Prop} (h : CallOK P f args w Post) (hp : ∀ v w', Post v w' → Post' v w') : CallOK P f args w Post' := by
  rcases h with ⟨v, w', h1, h2⟩ | ⟨g, as, h1, h2⟩
  · exact .inl ⟨v, w', h1, hp _ _ h2⟩
  · exact .inr ⟨g, as, h1, h2.mono fun e w' ⟨v, hv, hr⟩ => ⟨v, hv, hp _ _ hr⟩⟩

def GlobF (E : Env) (F : Frz) : Prop := ∀ g, RepS F (.ref (E.glob g)) (.pointer (some ⟨g, 0, none⟩))

/-- What is known of one function by its table's entry. -/
def PureFn (P : Program) (E : Env) (f : FuncId) (F : List SV → Option AV) : Prop :=
  ∀ vs r, F vs = some r → ∀ (F0 : Frz) (w : World) (us : Array Value), GlobF E F0 → (∀ b o v, F0 b o v → w.cell? ⟨b, o, none⟩ = some v) → us.size = vs.length →
    (∀ (j : Nat) (x : SV), vs[j]? = some x → RepS F0 x (us.getD j undef)) →
    CallOK P f us w fun v w' => ∃ γ', Fresh ⟨F0, [], fun _ => none⟩ w γ' w' ∧ RepA P γ' w' .ret r v

/-- What is known of functions that only look into a box. -/
def LookOK (P : Program) (E : Env) : Prop := ∀ f k, E.look f = some k → ∀ (b : Nat) (w : World) (u : Value), w.cell? ⟨b, k, none⟩ = some u → ∀ us : Array Value, us.size = 1 → us.getD 0 undef = .pointer (some ⟨b, 0, none⟩) →
  CallOK P f us w fun v w' => v = u ∧ w' = w

def PureOK (P : Program) (E : Env) : Prop := (∀ f F, E.pure f = some F → PureFn P E f F) ∧ LookOK P E

/-- What is asked of a function that runs in its caller's boxes. -/
def CfOK (P : Program) (E : Env) (cf : CallF) : Prop :=
  ∀ f args bx r bx', cf f args bx = some (r, bx') → ∀ (γ : Gh) (w : World) (us : Array Value), GlobOK E γ → BoxesOK P γ w bx → us.size = args.length →
    (∀ (j : Nat) (x : AV), args[j]? = some x → x.isOwn = false ∧ RepA P γ w .ret x (us.getD j undef)) →
    CallOK P f us w fun v w' => ∃ γ', BoxesOK P γ' w' bx' ∧ Ext γ w γ' w' ∧ RepA P γ' w' .ret r v

/-- What a deferred call does that only looks whether there is a panic: nothing. -/
def QuietOK (P : Program) (E : Env) : Prop := ∀ f, E.quiet f = true → ∀ (args : Array Value) (w : World),
  (callFunc f args).run P w = .ok (.enter f args) w ∧ CallsD P f args .returning w fun e u' w' => (∃ v, e = .returned v) ∧ u' = .returning ∧ w' = w

theorem argSV_spec {av : AV} {v : SV} (h : argSV av = some v) : av = .sv v := by
  unfold argSV at h
  split at h <;> simp only [Option.some.injEq, reduceCtorEq] at h
  rw [h]

theorem pure_call (hP : PureOK P E) (hG : GlobOK E γ) {bx : List Box} (hb : BoxesOK P γ w bx) {f : FuncId} {F : List SV → Option AV} (hf : E.pure f = some F) {args : List AV} {vs : List SV} {r : AV}
    (hvs : mapOpt argSV args = some vs) (hF : F vs = some r) {us : Array Value} (hs : us.size = args.length) (hr : ∀ (j : Nat) (x : AV), args[j]? = some x → x.isOwn = false ∧ RepA P γ w .ret x (us.getD j undef)) :
    CallOK P f us w fun v w' => ∃ γ', Fresh γ w γ' w' ∧ RepA P γ' w' .ret r v := by
  obtain ⟨l1, l2⟩ := mapOpt_spec hvs
  refine (hP.1 f F hf vs r hF γ.F w us hG hb.Fw (by rw [hs, l1]) (fun j x hx => ?_)).mono ?_
  · have hj : j < args.length := by rw [← l1]; exact (List.getElem?_eq_some_iff.1 hx).1
    obtain ⟨y, hy, hy2⟩ := l2 j args[j] (by simp [hj])
    rw [hx] at hy
    obtain rfl := Option.some.inj hy
    have h3 := (hr j args[j] (by simp [hj])).2
    rw [argSV_spec hy2] at h3
    exact h3.sv_inv
  · rintro v w' ⟨γ1, hfr, hrep⟩
    let γ' : Gh := { F := γ1.F, β := γ.β, ow := fun b => if b < w.heap.size then γ.ow b else γ1.ow b }
    have hfresh : Fresh γ w γ' w' := by
      refine ⟨hfr.os, hfr.tape, hfr.output, hfr.size, hfr.blk, hfr.F, hfr.Fold, hfr.Fw, rfl, fun b hb => by simp [γ', hb], fun b ℓ hl ho => ?_⟩
      simp only [γ'] at ho
      rw [if_neg (by omega)] at ho
      exact hfr.new b ℓ hl ho
    refine ⟨γ', hfresh, hrep.keep (fun _ _ _ h => h) (fun i b hi => ?_) (fun g _ hg => ⟨rfl, fun _ _ h => h, ?_⟩)⟩
    · rw [hfr.β] at hi; simp at hi
    · show (if g < w.heap.size then γ.ow g else γ1.ow g) = _
      by_cases hgl : g < w.heap.size
      · rw [hfr.ow g hgl] at hg; simp at hg
      · rw [if_neg hgl]; exact hg

/-- Only the cells' owners. -/
def Gh.cellsOnly (γ : Gh) : Gh := { γ with ow := fun b => match γ.ow b with | some (.cell i j) => some (.cell i j) | _ => none }

theorem BoxesOK.cellsOnly {bx : List Box} (h : BoxesOK P γ w bx) : BoxesOK P γ.cellsOnly w bx where
  len := h.len
  box := fun i b blk hi hk => (h.box i b blk hi hk).keep (fun _ _ _ h => h) rfl (fun _ _ h => h) (fun g j hg => ⟨rfl, fun _ _ h => h, by simp [Gh.cellsOnly, hg]⟩)
  nodup := h.nodup
  Fw := h.Fw
  ow := fun b ℓ ho => by
    simp only [Gh.cellsOnly] at ho
    split at ho
    · rename_i e; exact h.ow b _ e
    · simp at ho

theorem cf_call (hC : CfOK P E cf) (hG : GlobOK E γ) (hR : R P γ a w s) {f : FuncId} {args : List AV} {bx' : List Box} {r : AV} (hcf : cf f args s.bx = some (r, bx')) {us : Array Value} (hs : us.size = args.length)
    (hr : ∀ (j : Nat) (x : AV), args[j]? = some x → x.isOwn = false ∧ RepA P γ w .ret x (us.getD j undef)) :
    CallOK P f us w fun v w' => ∃ γ', R P γ' a w' { s with bx := bx', lz := none } ∧ Ext γ w γ' w' ∧ RepA P γ' w' .ret r v := by
  refine (hC f args s.bx r bx' hcf γ.cellsOnly w us hG hR.bx.cellsOnly hs (fun j x hx => ⟨(hr j x hx).1, (hr j x hx).2.keepN (hr j x hx).1 (fun _ _ _ h => h) (fun _ _ h => h)⟩)).mono ?_
  rintro v w' ⟨γ1, hb, he, hrep⟩
  let γ' : Gh := { F := γ1.F, β := γ1.β, ow := fun b => match γ.ow b with | some (.tmp t) => some (.tmp t) | _ => match γ1.ow b with | some (.tmp _) => none | x => x }
  have hF : ∀ b o v, γ.F b o v → γ'.F b o v := he.F
  have hβ : ∀ i b : Nat, γ.β[i]? = some b → γ'.β[i]? = some b := fun i b hi => by
    obtain ⟨l, hl, _⟩ := he.β
    show γ1.β[i]? = some b
    rw [hl]
    have hi' : γ.cellsOnly.β[i]? = some b := hi
    rw [List.getElem?_append_left (List.getElem?_eq_some_iff.1 hi').1]
    exact hi'
  have hfor : ∀ b t, γ.ow b = some (.tmp t) → Foreign γ.cellsOnly w b := fun b t h => ⟨(hR.bx.ow b _ h).1, (hR.bx.ow b _ h).2, by simp [Gh.cellsOnly, h]⟩
  have hot : ∀ b t, γ.ow b = some (.tmp t) → γ'.ow b = some (.tmp t) := fun b t h => by simp [γ', h]
  have hox : ∀ b ℓ, γ1.ow b = some ℓ → (∀ t, ℓ ≠ .tmp t) → γ'.ow b = some ℓ := by
    intro b ℓ h hn
    have h1 : ∀ t, γ.ow b ≠ some (.tmp t) := fun t ht => by have := he.own b (hfor b t ht); rw [h] at this; simp at this
    have hin : (match γ1.ow b with | some (.tmp _) => none | x => x) = some ℓ := by
      rw [h]
      cases ℓ with
      | tmp t => exact absurd rfl (hn t)
      | _ => rfl
    show (match γ.ow b with | some (.tmp t) => some (.tmp t) | _ => match γ1.ow b with | some (.tmp _) => none | x => x) = some ℓ
    cases hg : γ.ow b with
    | none => exact hin
    | some x =>
      cases x with
      | tmp t => exact absurd hg (h1 t)
      | _ => exact hin
  refine ⟨γ', ⟨⟨hb.len, fun i b blk hi hk => (hb.box i b blk hi hk).keep (fun _ _ _ h => h) rfl (fun _ _ h => h) (fun g j hg => ⟨rfl, fun _ _ h => h, hox g _ hg (by simp)⟩), hb.nodup, hb.Fw, fun b ℓ ho => ?_⟩, hR.sz, fun t ht => ?_, by simp, hR.dl, hR.df⟩, ?_, ?_⟩
  · simp only [γ'] at ho
    split at ho
    · rename_i t ht
      obtain ⟨q1, q2⟩ := hR.bx.ow b _ ht
      refine ⟨Nat.lt_of_lt_of_le q1 he.size, fun hm => ?_⟩
      obtain ⟨l, hl, hn⟩ := he.β
      have hm' : b ∈ γ1.β := hm
      rw [hl] at hm'
      rcases List.mem_append.1 hm' with h | h
      · exact q2 h
      · have := hn b h; omega
    · split at ho
      · simp at ho
      · exact hb.ow b ℓ ho
  · exact (hR.tm t ht).keep hF hβ (fun g _ hg => ⟨he.blk g (hfor g t hg), fun o v h => he.Fnew g o v (hfor g t hg) h, hot g t hg⟩)
  · have hff : ∀ b, Foreign γ w b → Foreign γ.cellsOnly w b := fun b h => ⟨h.1, h.2.1, by simp [Gh.cellsOnly, h.2.2]⟩
    exact ⟨he.os, he.tape, he.output, he.size, he.F, he.β, fun b h => he.blk b (hff b h), fun b o v h => he.Fnew b o v (hff b h), fun b h => by simp [γ', h.2.2, he.own b (hff b h)]⟩
  · exact hrep.keep (fun _ _ _ h => h) (fun _ _ h => h) (fun g _ hg => ⟨rfl, fun _ _ h => h, hox g _ hg (by simp)⟩)

theorem cat_getD {va vb : Array Value} {l1 l2 : List AV} (h1 : va.size = l1.length) {p : AV → Value → Prop} (r1 : ∀ (j : Nat) (x : AV), l1[j]? = some x → p x (va.getD j undef)) (r2 : ∀ (j : Nat) (x : AV), l2[j]? = some x → p x (vb.getD j undef)) :
    ∀ (j : Nat) (x : AV), (l1 ++ l2)[j]? = some x → p x ((va ++ vb).getD j undef) := by
  intro j x hx
  by_cases hj : j < l1.length
  · rw [List.getElem?_append_left hj] at hx
    have := r1 j x hx
    simp only [Array.getD_eq_getD_getElem?] at this ⊢
    rw [Array.getElem?_append_left (by omega)]
    exact this
  · rw [List.getElem?_append_right (by omega)] at hx
    have := r2 _ x hx
    simp only [Array.getD_eq_getD_getElem?] at this ⊢
    rw [Array.getElem?_append_right (by omega), h1]
    exact this

theorem args_getD (hR : R P γ a w s) (hG : GlobOK E γ) {os : Array Operand} {xs : List Opd} (h : allSome (os.toList.map opd) = some xs) :
    (os.map a.eval).size = (xs.map fun x => (Opd.ev E s x).arg).length ∧ ∀ (j : Nat) (x : AV), (xs.map fun x => (Opd.ev E s x).arg)[j]? = some x → x.isOwn = false ∧ RepA P γ w .ret x ((os.map a.eval).getD j undef) := by
  refine ⟨by simp [(opds_get h).1], fun j x hx => ?_⟩
  obtain ⟨k1, o', ho', k2⟩ := args_rep hR hG h .ret j x hx
  rw [map_getD ho']
  exact ⟨k1, k2⟩

theorem run_call {c : Call} {f : Operand} (ho : o.op = .call c) (hc : c.callee = .value f) {k : FuncId} {va vb : Array Value} (hf : a.eval f = .func (.func k) va vb) {w : World} {r : Result Next} (h : (callFunc k ((va ++ c.args.map a.eval) ++ vb)).run P w = r) :
    (execOp a.eval o).run P w = r := by
  simp only [execOp, ho, resolve, hc, Deferred.ofValue, hf, Sem.run_bind, Sem.run_pure, Result.andThen_ok, invoke]
  exact h

theorem wp_call {c : Call} {f : Operand} (ho : o.op = .call c) (hc : c.callee = .value f) {k : FuncId} {va vb : Array Value} (hf : a.eval f = .func (.func k) va vb) {Post : Value → World → Prop} (h : CallOK P k ((va ++ c.args.map a.eval) ++ vb) w Post)
    {K : Act → World → Prop} {Q : Exit → Act → World → Prop} (hK : ∀ v w', Post v w' → K (a.put o.dst v) w') : o.wp P a w K Q := by
  unfold Oper.wp
  rcases h with ⟨v, w', h1, h2⟩ | ⟨g, as, h1, h2⟩
  · rw [run_call ho hc hf h1]
    exact hK v w' h2
  · rw [run_call ho hc hf h1]
    simp only [Oper.upon]
    refine h2.mono ?_
    rintro e w' ⟨v, rfl, hp⟩
    exact hK v w' hp

theorem wp_done {o : Oper} {av : AV} {s1 : St} (h : Done P γ a w o av s1) {K : Act → World → Prop} {Q : Exit → Act → World → Prop} (hK : ∀ γ' v w', Ext γ w γ' w' → R P γ' (a.put o.dst v) w' (s1.put o.dst av) → K (a.put o.dst v) w') : o.wp P a w K Q := by
  obtain ⟨v, w', γ', hr, he, hR, hv⟩ := h
  obtain ⟨γ2, k1, k2, _⟩ := hR.put hv o.dst
  unfold Oper.wp
  rcases hr with hr | ⟨hr, rfl⟩
  · rw [hr]; exact hK γ2 v w' (he.trans k2) k1
  · rw [hr]; exact hK γ2 undef w' (he.trans k2) k1

theorem R.setLz (hR : R P γ a w s) {l : Option (Nat × Loc)} (h : ∀ d ℓ, l = some (d, ℓ) → AtLoc γ a w (a.tmps.getD d undef) ℓ) : R P γ a w { s with lz := l } := ⟨hR.bx, hR.sz, hR.tm, h, hR.dl, hR.df⟩

theorem put_getD_same (a : Act) (d : Nat) (v : Value) (ht : d < a.tmps.size) : (a.put (some d) v).tmps.getD d undef = v := by
  rw [put_getD a d d v ht, if_pos rfl]

theorem cOp_call {ops : Array Oper} {f' : Opd} {args' : List Opd} (hc : cOp P ops o = some (.call f' args')) : ∃ c f, o.op = .call c ∧ c.callee = .value f ∧ opd f = some f' ∧ allSome (c.args.toList.map opd) = some args' := by
  unfold cOp at hc
  split at hc
  case h_22 c ho =>
    split at hc <;> try (simp at hc; done)
    rename_i args hargs
    split at hc
    · rename_i f hcal
      simp only [Option.map_eq_some_iff, AOp.call.injEq] at hc
      obtain ⟨g, hg, rfl, rfl⟩ := hc
      exact ⟨c, f, ho, hcal, hg, hargs⟩
    all_goals (exfalso; repeat' (split at hc)) <;> simp at hc
  all_goals (exfalso; repeat' (split at hc)) <;> simp at hc

theorem cOp_dfr {ops : Array Oper} {f' : Opd} (hc : cOp P ops o = some (.dfr f')) : ∃ c f, o.op = .defer c ∧ c.callee = .value f ∧ opd f = some f' := by
  unfold cOp at hc
  split at hc
  case h_24 c ho =>
    split at hc <;> try (simp at hc; done)
    simp only [Option.map_eq_some_iff, AOp.dfr.injEq] at hc
    obtain ⟨g, hg, rfl⟩ := hc
    exact ⟨c, _, ho, by assumption, hg⟩
  all_goals (exfalso; repeat' (split at hc)) <;> simp at hc

/-- One operation that is carried out. -/
theorem step_ok (hP : PureOK P E) (hC : CfOK P E cf) (hR : R P γ a w s) (hG : GlobOK E γ) {ops : Array Oper} {so : SOp} (hc : cOper P ops o = some so) {s' : St} (h : stepOp E cf q so s = some s')
    {K : Act → World → Prop} {Q : Exit → Act → World → Prop} (hK : ∀ γ' a' w', Ext γ w γ' w' → R P γ' a' w' s' → K a' w') : o.wp P a w K Q := by
  simp only [cOper, Option.some.injEq] at hc
  subst hc
  simp only [stepOp] at h
  split at h <;> try (simp at h; done)
  rename_i av s1 hst
  cases hco : cOp P ops o with
  | none => rw [hco] at hst; simp [stepV] at hst
  | some op =>
  have hc := hco
  rw [hco] at hst h
  simp only [Option.getD_some] at hst h
  by_cases hcall : ∃ f args, op = .call f args
  · obtain ⟨f', args', rfl⟩ := hcall
    simp only [lazyAfter, Option.some.injEq] at h
    subst h
    have hcc := cOp_call hc
    obtain ⟨c, f, ho, hcal, hf, hargs⟩ := hcc
    simp only [stepV] at hst
    split at hst <;> try (simp at hst; done)
    rename_i k first cap htar
    split at hst <;> simp only [Option.some.injEq, Prod.mk.injEq, reduceCtorEq] at hst
    rename_i r bx hdo
    obtain ⟨rfl, rfl⟩ := hst
    obtain ⟨va, vb, hfe, hva, hvb, r1, r2⟩ := target_rep (ev_rep hR hG hf) htar
    obtain ⟨hsz, hrep⟩ := args_getD hR hG hargs
    have hall := cat_getD (p := fun x v => x.isOwn = false ∧ RepA P γ w .ret x v) (va := va ++ c.args.map a.eval) (by simp only [Array.size_append, List.length_append]; rw [hva, hsz]) (cat_getD (p := fun x v => x.isOwn = false ∧ RepA P γ w .ret x v) hva r1 hrep) r2
    have hsz2 : ((va ++ c.args.map a.eval) ++ vb).size = (first ++ (args'.map fun x => (x.ev E s).arg) ++ cap).length := by
      simp only [Array.size_append, List.length_append]; rw [hva, hsz, hvb]
    unfold doCall at hdo
    split at hdo
    · rename_i F hF
      split at hdo <;> try (simp at hdo; done)
      rename_i vs hvs
      split at hdo <;> simp only [Option.some.injEq, Prod.mk.injEq, reduceCtorEq] at hdo
      rename_i r' hr'
      obtain ⟨rfl, rfl⟩ := hdo
      refine wp_call ho hcal hfe (pure_call hP hG hR.bx hF hvs hr' hsz2 hall) ?_
      rintro v w' ⟨γ1, hfr, hv⟩
      obtain ⟨γ2, k1, k2, _⟩ := (hfr.R hR).put hv o.dst
      refine hK γ2 _ w' (hfr.ext.trans k2) ?_
      have : (if q = true then s else { s with bx := s.bx, lz := if (E.pure k).isSome then s.lz else none }) = s := by
        rw [hF]; simp
      rw [this]; exact k1
    · rename_i hpn
      split at hdo
      · rename_i hq
        unfold doLook at hdo
        split at hdo <;> try (simp at hdo; done)
        rename_i k' hk
        split at hdo <;> try (simp at hdo; done)
        rename_i i hargs'
        split at hdo <;> try (simp at hdo; done)
        rename_i cs hbi
        split at hdo <;> simp only [Option.some.injEq, Prod.mk.injEq, reduceCtorEq] at hdo
        rename_i v hcv
        obtain ⟨rfl, rfl⟩ := hdo
        have hp0 := hall 0 (.ptr i 0) (by rw [hargs']; rfl)
        rw [hargs'] at hsz2
        have hp1 := hp0.2
        generalize hgd : ((va ++ c.args.map a.eval) ++ vb).getD 0 undef = pv at hp1
        cases hp1 with
        | ptr _ _ blk hblk =>
          have hB := hR.bx.box i _ blk hbi hblk
          obtain ⟨arr, t, m, q1, ⟨q2, _⟩, q3, q4⟩ := hB
          have hkl : k' < cs.length := (List.getElem?_eq_some_iff.1 hcv).1
          have hC1 := q3 k' _ hcv
          have hcell : w.cell? ⟨blk, k', none⟩ = some (arr.getD k' undef) := by
            rw [cell_of_row w blk k' arr t m q1]
            simp [Array.getD_eq_getD_getElem?, Array.getElem?_eq_getElem (show k' < arr.size by omega)]
          refine wp_call ho hcal hfe (hP.2 k k' hk blk w _ hcell _ hsz2 hgd) ?_
          rintro v' w' ⟨rfl, rfl⟩
          obtain ⟨γ2, k1, k2, _⟩ := hR.put (RepA.sv .ret v _ hC1.2) o.dst
          refine hK γ2 _ _ k2 ?_
          rw [if_pos hq]; exact k1
      rename_i hq
      refine wp_call ho hcal hfe (cf_call hC hG hR hdo hsz2 hall) ?_
      rintro v w' ⟨γ1, h1, h2, hv⟩
      obtain ⟨γ2, k1, k2, _⟩ := h1.put hv o.dst
      refine hK γ2 _ w' (h2.trans k2) ?_
      rw [hpn]
      simpa [hq] using k1
  · by_cases hd : ∃ f, op = .dfr f
    · obtain ⟨f', rfl⟩ := hd
      simp only [lazyAfter, Option.some.injEq] at h
      subst h
      have hcc := cOp_dfr hc
      obtain ⟨c, f, ho, hcal, hf⟩ := hcc
      simp only [stepV] at hst
      split at hst <;> try (simp at hst; done)
      split at hst <;> simp only [Option.some.injEq, Prod.mk.injEq, reduceCtorEq] at hst
      rename_i k first cap htar
      obtain ⟨rfl, rfl⟩ := hst
      obtain ⟨va, vb, hfe, _⟩ := target_rep (ev_rep hR hG hf) htar
      unfold Oper.wp
      have hrun : (execOp a.eval o).run P w = .ok (.defer { target := .fn (.func k) vb, args := va ++ c.args.map a.eval }) w := by
        simp only [execOp, ho, resolve, hcal, Deferred.ofValue, hfe, Sem.run_bind, Sem.run_pure, Result.andThen_ok]
      rw [hrun]
      simp only [Oper.upon]
      have hR2 : R P γ { a with defers := { target := .fn (.func k) vb, args := va ++ c.args.map a.eval } :: a.defers } w { s with df := k :: s.df } := by
        refine ⟨hR.bx, hR.sz, hR.tm, hR.lz, by simp [hR.dl], fun i d c' hd hc' => ?_⟩
        cases i with
        | zero =>
          simp only [List.getElem?_cons_zero, Option.some.injEq] at hd hc'
          subst hd; subst hc'
          exact ⟨vb, rfl⟩
        | succ i => exact hR.df i d c' (by simpa using hd) (by simpa using hc')
      obtain ⟨γ2, k1, k2, _⟩ := hR2.put (av := .sv .undef) (v := undef) (.sv _ _ _ (.undef _)) o.dst
      exact hK γ2 _ w k2 k1
    · have hdone := done_of hR hG hc (fun f args e => hcall ⟨f, args, e⟩) (fun f e => hd ⟨f, e⟩) hst
      split at h
      · rename_i l hlaz
        simp only [Option.some.injEq] at h
        subst h
        unfold lazyAfter at hlaz
        split at hlaz
        · rename_i t
          obtain ⟨ho, d, hdst⟩ : o.op = .move (.tmp t) ∧ ∃ d, o.dst = some d := by
            constructor
            · unfold cOp at hc
              split at hc
              · rename_i x ho
                split at hc
                · simp only [Option.some.injEq, AOp.movL.injEq] at hc; subst hc; exact ho
                · simp only [Option.map_eq_some_iff, reduceCtorEq, and_false, exists_false] at hc
              all_goals (exfalso; repeat' (split at hc)) <;> simp at hc
            · simp only [stepV] at hst
              split at hst
              · exact ⟨_, by assumption⟩
              · simp at hst
          have hst' := hst
          simp only [stepV, hdst, Option.some.injEq, Prod.mk.injEq] at hst'
          obtain ⟨rfl, rfl⟩ := hst'
          unfold Oper.wp
          have hrun : (execOp a.eval o).run P w = .ok (.value (a.tmps.getD t undef)) w := by simp only [execOp, ho]; rfl
          rw [hrun]
          simp only [Oper.upon]
          have hv : RepA P γ w .ret (s.rd t).copy (a.tmps.getD t undef) := (ev_rep hR hG (show opd (.tmp t) = some (.t t) from rfl)).copy .ret
          obtain ⟨γ2, k1, k2, _⟩ := hR.put hv o.dst
          refine hK γ2 _ w k2 (k1.setLz ?_)
          intro d' ℓ hl
          simp only [hdst] at hlaz
          split at hlaz <;> simp only [Option.some.injEq] at hlaz <;> subst hlaz
          · simp at hl
          · rename_i hne
            simp only [Option.some.injEq, Prod.mk.injEq] at hl
            obtain ⟨rfl, rfl⟩ := hl
            show (a.put o.dst _).tmps.getD t undef = (a.put o.dst _).tmps.getD d undef
            rw [hdst, put_getD_ne a d t _ (by omega), put_getD_same a d _ (by rw [hR.sz]; omega)]
        · rename_i p'
          obtain ⟨t, p, ho, hn, hp⟩ : ∃ t p, o.op = .load t p ∧ aggN P t = some none ∧ opd p = some p' := by
            unfold cOp at hc
            split at hc
            case h_4 t p ho =>
              split at hc
              · split at hc
                · simp only [Option.some.injEq, AOp.loadL.injEq] at hc; subst hc; exact ⟨t, p, ho, by assumption, by assumption⟩
                · simp at hc
              · simp at hc
              · simp at hc
            all_goals (exfalso; repeat' (split at hc)) <;> simp at hc
          have hst' := hst
          simp only [stepV] at hst'
          split at hst' <;> try (simp at hst'; done)
          rename_i cs hcs
          split at hst' <;> try (simp at hst'; done)
          rename_i v hvv
          simp only [Option.some.injEq, Prod.mk.injEq] at hst'
          obtain ⟨rfl, rfl⟩ := hst'
          have hpr := ev_rep hR hG hp
          obtain ⟨b, off, vs, hu, hcc⟩ := cellsAt_rep hR.bx hpr hcs
          obtain ⟨h1, i, hi, h2⟩ := run_isAgg (P := P) (w := w) hn
          obtain ⟨x, rest, rfl, rfl⟩ : ∃ x rest, cs = x :: rest ∧ x = v := by
            simp only [takeN] at hvv
            split at hvv <;> simp only [Option.some.injEq, reduceCtorEq] at hvv
            subst hvv; exact ⟨_, _, rfl, rfl⟩
          obtain ⟨g1, g2, g3⟩ := hcc 0 x rfl
          rw [Nat.add_zero] at g2
          have hrun : (execOp a.eval o).run P w = .ok (.value (vs 0)) w := by
            simp only [execOp, ho, hu]
            simp [Instr.loadAt, Instr.sureAddr, loadVar, h1, g2]
          unfold Oper.wp
          rw [hrun]
          simp only [Oper.upon]
          obtain ⟨γ2, k1, k2, _⟩ := hR.put (av := .sv x) (v := vs 0) (.sv _ _ _ g3) o.dst
          refine hK γ2 _ w k2 (k1.setLz ?_)
          intro d' ℓ hl
          split at hlaz
          · rename_i d i' off' hdst hpe
            split at hlaz <;> simp only [Option.some.injEq] at hlaz <;> subst hlaz
            · simp at hl
            · rename_i hne
              simp only [Option.some.injEq, Prod.mk.injEq] at hl
              obtain ⟨rfl, rfl⟩ := hl
              rw [hpe] at hpr
              rw [hu] at hpr
              cases hpr with
              | ptr _ _ _ hblk =>
                obtain ⟨l', hl', _⟩ := k2.β
                refine ⟨b, ?_, ?_⟩
                · rw [hl', List.getElem?_append_left (List.getElem?_eq_some_iff.1 hblk).1]; exact hblk
                · rw [hdst, put_getD_same a d _ (by rw [hR.sz]; omega)]; exact g2
          · simp only [Option.some.injEq] at hlaz; subst hlaz; simp at hl
        · simp at hlaz
      · simp only [Option.some.injEq] at h
        subst h
        exact wp_done hdone (fun γ' v w' he hR' => hK γ' _ w' he hR')

end Go.Ev

set_option linter.unusedSimpArgs false
set_option linter.unusedVariables false
namespace Go.Ev
variable {P : Program} {E : Env} {γ : Gh} {a : Act} {w : World} {s : St} {cf : CallF} {q : Bool} {s1 : St} {av : AV}

theorem all_get {ops : Array Oper} {l : List SOp} (h : allSome (ops.toList.map (cOper P ops)) = some l) : l.length = ops.size ∧ ∀ (i : Nat) (o : Oper), ops[i]? = some o → ∃ so, l[i]? = some so ∧ cOper P ops o = some so := by
  obtain ⟨h1, h2⟩ := allSome_spec h
  have hlen : l.length = ops.size := by simpa using h1
  refine ⟨hlen, fun i o hi => ?_⟩
  have hlt : i < l.length := by rw [hlen]; exact (Array.getElem?_eq_some_iff.1 hi).1
  refine ⟨l[i], by simp [hlt], ?_⟩
  have h3 := h2 i l[i] (by simp [hlt])
  rw [List.getElem?_map, Array.getElem?_toList, hi] at h3
  simpa using h3

theorem cOper_eq {ops : Array Oper} {o : Oper} {so : SOp} (h : cOper P ops o = some so) : so.dst = o.dst ∧ so.guard = o.guard := by
  simp only [cOper, Option.some.injEq] at h
  subst h
  exact ⟨rfl, rfl⟩

theorem wants_ok (hR : R P γ a w s) {ops : Array Oper} {l : List SOp} (hl : allSome (ops.toList.map (cOper P ops)) = some l) {o : Oper} {so : SOp} (hc : cOper P ops o = some so) {b : Bool} (h : wants l s so = some b) :
    Region.wanted o (yielded ops a.tmps) = b := by
  obtain ⟨_, hg⟩ := cOper_eq hc
  unfold wants at h
  rw [hg] at h
  unfold Region.wanted
  cases hgd : o.guard with
  | none => rw [hgd] at h; simpa using h
  | some gw =>
    obtain ⟨j, want⟩ := gw
    rw [hgd] at h
    simp only at h
    split at h <;> try (simp at h; done)
    rename_i g hj
    split at h <;> try (simp at h; done)
    rename_i d hd
    have hjl : j < ops.size := by rw [← (all_get hl).1]; exact (List.getElem?_eq_some_iff.1 hj).1
    obtain ⟨so', h1, h2⟩ := (all_get hl).2 j ops[j] (by simp [hjl])
    rw [hj] at h1
    obtain rfl := Option.some.inj h1
    obtain ⟨hd', _⟩ := cOper_eq h2
    have hdst : ((ops[j]?).bind (·.dst)) = some d := by rw [Array.getElem?_eq_getElem hjl]; simp [← hd', hd]
    split at h <;> try (simp at h; done)
    rotate_left
    · rename_i hrd
      have hlt : d < s.tm.length := by
        refine Decidable.byContradiction fun hn => ?_
        simp only [St.rd, List.getD_eq_getElem?_getD] at hrd
        rw [List.getElem?_eq_none (by omega)] at hrd
        simp at hrd
      have hv := hR.tm d hlt
      rw [hrd] at hv
      have hva : a.tmps.getD d undef = undef := by
        have := hv.sv_inv
        generalize a.tmps.getD d undef = u at this
        cases this; rfl
      have hsz : d < a.tmps.size := by rw [hR.sz]; exact hlt
      have hy : yielded ops a.tmps j = none := by
        unfold yielded
        rw [hdst]
        simp only [Option.bind_some, Array.getElem?_eq_getElem hsz]
        rw [Array.getD_eq_getD_getElem?, Array.getElem?_eq_getElem hsz] at hva
        simp only [Option.getD_some] at hva
        rw [hva]
        rfl
      simp only [Option.some.injEq] at h
      simp only [hy]
      rw [← h]
      rfl
    rename_i c hrd
    have hlt : d < s.tm.length := by
      refine Decidable.byContradiction fun hn => ?_
      simp only [St.rd, List.getD_eq_getElem?_getD] at hrd
      rw [List.getElem?_eq_none (by omega)] at hrd
      simp at hrd
    have hv := hR.tm d hlt
    rw [hrd] at hv
    have hva : a.tmps.getD d undef = .bool c := by
      have := hv.sv_inv
      generalize a.tmps.getD d undef = u at this
      cases this; rfl
    have hsz : d < a.tmps.size := by rw [hR.sz]; exact hlt
    have hy : yielded ops a.tmps j = some c := by
      unfold yielded
      rw [hdst]
      simp only [Option.bind_some, Array.getElem?_eq_getElem hsz]
      rw [Array.getD_eq_getD_getElem?, Array.getElem?_eq_getElem hsz] at hva
      simp only [Option.getD_some] at hva
      rw [hva]
    simp only [Option.some.injEq] at h
    simp only [hy]
    rw [← h]
    cases c <;> cases want <;> rfl

theorem opRun_ok (hP : PureOK P E) (hC : CfOK P E cf) (hR : R P γ a w s) (hG : GlobOK E γ) {ops : Array Oper} {l : List SOp} (hl : allSome (ops.toList.map (cOper P ops)) = some l) {i : Nat} {so : SOp} (hi : l[i]? = some so) {s' : St} (h : opRun E cf q l so s = some s')
    {K : Act → World → Prop} {Q : Exit → Act → World → Prop} (hK : ∀ γ' a' w', Ext γ w γ' w' → R P γ' a' w' s' → K a' w') : wpOp P ops Q i K a w := by
  have hil : i < ops.size := by rw [← (all_get hl).1]; exact (List.getElem?_eq_some_iff.1 hi).1
  obtain ⟨so', h1, hc⟩ := (all_get hl).2 i ops[i] (by simp [hil])
  rw [hi] at h1
  obtain rfl := Option.some.inj h1
  obtain ⟨hdst, _⟩ := cOper_eq hc
  unfold wpOp
  rw [Array.getElem?_eq_getElem hil]
  simp only
  unfold opRun at h
  split at h
  · rename_i hw
    rw [wants_ok hR hl hc hw]
    simp only [if_true]
    exact .inl (step_ok hP hC hR hG hc h hK)
  · rename_i hw
    rw [wants_ok hR hl hc hw]
    simp only [Bool.false_eq_true, if_false]
    simp only [Option.some.injEq] at h
    subst h
    obtain ⟨γ2, k1, k2, _⟩ := hR.put (av := .sv .off) (v := undef) (.sv _ _ _ .off) so.dst
    rw [hdst] at k1
    rw [hdst] at hK
    exact hK γ2 _ w k2 k1
  · simp at h

theorem drop_cons {α : Type} {l : List α} {i : Nat} {x : α} (h : l[i]? = some x) : l.drop i = x :: l.drop (i + 1) := by
  obtain ⟨h1, h2⟩ := List.getElem?_eq_some_iff.1 h
  rw [List.drop_eq_getElem_cons h1, h2]

theorem seq_ok (hP : PureOK P E) (hC : CfOK P E cf) {ops : Array Oper} {l : List SOp} (hl : allSome (ops.toList.map (cOper P ops)) = some l) {Q : Exit → Act → World → Prop} :
    ∀ (n i : Nat) (γ : Gh) (a : Act) (w : World) (s s' : St), i + n = ops.size → R P γ a w s → GlobOK E γ → runOps E cf q l (l.drop i) s = some s' → (∀ γ' a' w', Ext γ w γ' w' → R P γ' a' w' s' → Q .normal a' w') → wpOps P ops Q (List.range' i n) a w
  | 0, i, γ, a, w, s, s', hn, hR, hG, h, hQ => by
    have : l.drop i = [] := List.drop_eq_nil_of_le (by rw [(all_get hl).1]; omega)
    rw [this] at h
    simp only [runOps, Option.some.injEq] at h
    subst h
    exact hQ γ a w (Ext.refl _ _) hR
  | n + 1, i, γ, a, w, s, s', hn, hR, hG, h, hQ => by
    have hil : i < l.length := by rw [(all_get hl).1]; omega
    have hi : l[i]? = some l[i] := by simp [hil]
    rw [drop_cons hi] at h
    simp only [runOps] at h
    split at h <;> try (simp at h; done)
    rename_i s2 hs2
    rw [List.range'_succ, wpOps_cons]
    refine opRun_ok hP hC hR hG hl hi hs2 (fun γ' a' w' he hR' => ?_)
    exact seq_ok hP hC hl n (i + 1) γ' a' w' s2 s' (by omega) hR' (hG.mono he.F) h (fun γ2 a2 w2 he2 hR2 => hQ γ2 a2 w2 (he.trans he2) hR2)

theorem region_seq (hP : PureOK P E) (hC : CfOK P E cf) (hR : R P γ a w s) (hG : GlobOK E γ) {id : Nat} {ops : Array Oper} {l : List SOp} (hl : allSome (ops.toList.map (cOper P ops)) = some l) {s' : St} (h : runOps E cf q l l s = some s')
    {Q : Exit → Act → World → Prop} (hQ : ∀ γ' a' w', Ext γ w γ' w' → R P γ' a' w' s' → Q .normal a' w') : (Code.region id ops false).wp P Q a w := by
  refine wp_region ?_
  rw [List.range_eq_range']
  exact seq_ok hP hC hl ops.size 0 γ a w s s' (by omega) hR hG (by simpa using h) hQ

end Go.Ev

set_option linter.unusedSimpArgs false
set_option linter.unusedVariables false
namespace Go.Ev
variable {E : Env} {cf : CallF} {dst : Option Nat}

theorem ev_local {s s' : St} {x : Opd} (h : ∀ t ∈ x.reads, s'.rd t = s.rd t) : x.ev E s' = x.ev E s := by
  cases x with
  | t n => exact h n (by simp [Opd.reads])
  | c v => rfl
  | g n => rfl

theorem sink_same {s s' : St} (hbx : s'.bx = s.bx) {v : AV} : (∀ p, sinkQ true s v = some p → p.2 = s) ∧ sinkQ true s' v = (sinkQ true s v).map fun p => (p.1, s') := by
  cases v with
  | sv v => cases v <;> simp [sinkQ, sink] <;> (rintro a b rfl rfl; rfl)
  | own e xs => simp [sinkQ, sink]
  | ptr i off => simp [sinkQ]
  | mrow i n e => simp [sinkQ]
  | clo f a b => simp [sinkQ, sink]

theorem sinks_same {s s' : St} (hbx : s'.bx = s.bx) : ∀ (xs : List Opd), (∀ x ∈ xs, x.ev E s' = x.ev E s) → (∀ p, sinks E true s xs = some p → p.2 = s) ∧ sinks E true s' xs = (sinks E true s xs).map fun p => (p.1, s')
  | [], _ => by simp [sinks]
  | x :: xs, h => by
    obtain ⟨h1, h2⟩ := sink_same (s := s) (s' := s') hbx (v := x.ev E s)
    obtain ⟨k1, k2⟩ := sinks_same hbx xs (fun y hy => h y (by simp [hy]))
    have hx := h x (by simp)
    simp only [sinks, hx, h2]
    cases hs : sinkQ true s (x.ev E s) with
    | none => simp
    | some p =>
      obtain ⟨v, s2⟩ := p
      have := h1 _ hs
      simp only at this
      subst this
      simp only [Option.map_some, k2]
      cases hss : sinks E true s2 xs with
      | none => simp
      | some p2 =>
        obtain ⟨vs, s3⟩ := p2
        have := k1 _ hss
        simp only at this
        subst this
        simp

theorem map_local {s s' : St} {xs : List Opd} (h : ∀ x ∈ xs, x.ev E s' = x.ev E s) : (xs.map fun x => (Opd.ev E s' x).arg) = xs.map fun x => (Opd.ev E s x).arg :=
  List.map_congr_left fun x hx => by rw [h x hx]

theorem mapOpt_congr {α β : Type} {f g : α → Option β} : ∀ {xs : List α}, (∀ x ∈ xs, f x = g x) → mapOpt f xs = mapOpt g xs
  | [], _ => rfl
  | x :: xs, h => by
    simp only [mapOpt]
    rw [h x (by simp), mapOpt_congr (fun y hy => h y (by simp [hy]))]

theorem optInt_local {s s' : St} {x : Option Opd} {d : Int} (h : ∀ t ∈ (x.map Opd.reads).getD [], s'.rd t = s.rd t) : optInt E s' x d = optInt E s x d := by
  cases x with
  | none => rfl
  | some o => simp only [optInt]; rw [ev_local (by simpa using h)]

theorem cellsAt_local {s s' : St} (hbx : s'.bx = s.bx) (v : AV) : cellsAt s' v = cellsAt s v := by
  unfold cellsAt
  rw [hbx]

theorem doAppQ_same {s s1 : St} {e k b : Nat} {d : Option Nat} {x y : Opd} {av : AV} (h : doAppQ E s e k b d x y = some (av, s1)) : s1 = s.forgetO (AOp.app e k b d x y).kills := by
  unfold doAppQ at h
  split at h <;> try (simp at h; done)
  split at h <;> try (simp at h; done)
  split at h <;> simp only [Option.some.injEq, Prod.mk.injEq, reduceCtorEq] at h
  exact h.2.symm

theorem doApp_local {s s' : St} {e k b t : Nat} {y : Opd} (hz : s.lz = none) (hz' : s'.lz = none) (ht : s'.rd t = s.rd t) (hy : y.ev E s' = y.ev E s) :
    (doApp E s' e k b (some t) (.t t) y).map (·.1) = (doApp E s e k b (some t) (.t t) y).map (·.1) := by
  unfold doApp appBase
  simp only [hz, hz', hy]
  cases (y.ev E s).elems with
  | none => rfl
  | some new =>
    simp only [ht]
    generalize s.rd t = v
    cases v with
    | own e' ys => simp only; split <;> rfl
    | sv v => cases v <;> simp only <;> (repeat' split) <;> simp_all
    | _ => rfl

theorem doAppQ_local {s s' : St} {e k b : Nat} {d : Option Nat} {x y : Opd} (hz : s.lz = s'.lz) (hr : ∀ t ∈ x.reads ++ y.reads, s'.rd t = s.rd t) :
    doAppQ E s' e k b d x y = (doAppQ E s e k b d x y).map fun p => (p.1, s'.forgetO (AOp.app e k b d x y).kills) := by
  cases x with
  | t t =>
    have ht : s'.rd t = s.rd t := hr t (by simp [Opd.reads])
    have hy : y.ev E s' = y.ev E s := ev_local (fun u hu => hr u (by simp [hu]))
    unfold doAppQ
    simp only [ht, ← hz]
    by_cases hc : d = some t ∧ s.lz = none ∧ (s.rd t).isOwn = true
    · rw [if_pos hc, if_pos hc]
      obtain ⟨rfl, h2, _⟩ := hc
      have := doApp_local (E := E) (e := e) (k := k) (b := b) h2 (hz ▸ h2) ht hy
      cases h1 : doApp E s e k b (some t) (.t t) y with
      | none => rw [h1] at this; simp only [Option.map_none, Option.map_eq_none_iff] at this; rw [this]; rfl
      | some p =>
        rw [h1] at this
        simp only [Option.map_some, Option.map_eq_some_iff] at this
        obtain ⟨p2, g1, g2⟩ := this
        rw [g1]
        obtain ⟨p21, p22⟩ := p2
        obtain ⟨p1, p12⟩ := p
        simp only at g2
        subst g2
        rfl
    · rw [if_neg hc, if_neg hc]; rfl
  | c v => rfl
  | g n => rfl

theorem stepV_same {s s1 : St} {op : AOp} {av : AV} (hh : headOp op = true) (h : stepV E cf true dst s op = some (av, s1)) : s1 = s.forgetO op.kills := by
  have hS := @sinks_same E s s rfl
  have hs1 := @sink_same s s rfl
  cases op <;> simp only [headOp, Bool.false_eq_true] at hh <;> simp only [stepV, if_true] at h
  case build z parts =>
    split at h <;> try (simp at h; done)
    rename_i vs s2 hvs
    have := (hS _ (fun _ _ => rfl)).1 _ hvs
    split at h <;> simp only [Option.some.injEq, Prod.mk.injEq, reduceCtorEq] at h
    rw [← h.2]; exact this
  case mkSl e k parts =>
    split at h <;> try (simp at h; done)
    rename_i vs s2 hvs
    have := (hS _ (fun _ _ => rfl)).1 _ hvs
    split at h <;> simp only [Option.some.injEq, Prod.mk.injEq, reduceCtorEq] at h
    rw [← h.2]; exact this
  case mkI t x =>
    split at h <;> simp only [Option.some.injEq, Prod.mk.injEq, reduceCtorEq] at h
    rename_i v s2 hv
    have := hs1.1 _ hv
    rw [← h.2]; exact this
  case app e k b d x y => exact doAppQ_same h
  case s2r x =>
    split at h <;> try (simp at h; done)
    simp only [Bool.true_or, if_true, Option.some.injEq, Prod.mk.injEq] at h
    exact h.2.symm
  case b2s x =>
    split at h <;> try (simp at h; done)
    rename_i xs s2 hv
    have := hs1.1 _ hv
    split at h <;> simp only [Option.some.injEq, Prod.mk.injEq, reduceCtorEq] at h
    rw [← h.2]; exact this
  all_goals
    repeat' split at h
    all_goals first
      | (simp only [Option.some.injEq, Prod.mk.injEq] at h; exact h.2.symm)
      | (simp at h; done)

theorem stepV_local {s s' : St} {op : AOp} (hz : s.lz = s'.lz ∨ op.kills = none) (hbx : s'.bx = s.bx) (hr : ∀ t ∈ op.reads, s'.rd t = s.rd t) (hh : headOp op = true) : stepV E cf true dst s' op = (stepV E cf true dst s op).map fun p => (p.1, s'.forgetO op.kills) := by
  have hS := @sinks_same E s s' hbx
  cases op <;> simp only [headOp, Bool.false_eq_true] at hh <;> simp only [AOp.reads] at hr
  all_goals simp only [stepV, if_true]
  case app e k b d x y =>
    rcases hz with hz | hz
    · exact doAppQ_local hz hr
    · cases x with
      | t t => simp [AOp.kills] at hz
      | c v => rfl
      | g n => rfl
  all_goals simp only [AOp.kills, St.forgetO]
  case mov x => rw [ev_local hr]; rfl
  case movL t => rw [hr t (by simp)]; cases dst <;> rfl
  case pick c x y =>
    rw [ev_local (x := c) (fun t ht => hr t (by simp [ht])), ev_local (x := x) (fun t ht => hr t (by simp [ht])), ev_local (x := y) (fun t ht => hr t (by simp [ht]))]
    cases (c.ev E s).bool? <;> rfl
  case load n p => rw [ev_local hr, cellsAt_local hbx]; (repeat' split) <;> simp_all
  case loadL p => rw [ev_local hr, cellsAt_local hbx]; (repeat' split) <;> simp_all
  case build z parts =>
    obtain ⟨k1, k2⟩ := hS (parts.map (·.2.2)) (fun x hx => ev_local (fun t ht => hr t (by
      obtain ⟨p, hp, rfl⟩ := List.mem_map.1 hx
      exact List.mem_flatMap.2 ⟨p, hp, ht⟩)))
    rw [k2]
    cases hss : sinks E true s (parts.map (·.2.2)) with
    | none => rfl
    | some p =>
      have hkn : (parts.map fun p => p.2.2.ev E s') = parts.map fun p => p.2.2.ev E s := List.map_congr_left fun p hp => ev_local (fun t ht => hr t (List.mem_flatMap.2 ⟨p, hp, ht⟩))
      rw [hkn]
      simp only [Option.map_some]
      cases fillS z ((parts.zip (keepNil (parts.map fun p => p.2.2.ev E s) p.1)).map fun p => (p.1.1, p.1.2.1, p.2)) <;> rfl
  case mkSl e k parts =>
    obtain ⟨k1, k2⟩ := hS parts (fun x hx => ev_local (fun t ht => hr t (List.mem_flatMap.2 ⟨x, hx, ht⟩)))
    rw [k2]
    cases hss : sinks E true s parts with
    | none => rfl
    | some p => simp only [Option.map_some]; split <;> rfl
  case b2s x =>
    rw [ev_local hr, (sink_same (s := s) (s' := s') hbx).2]
    cases hss : sinkQ true s (x.ev E s) with
    | none => rfl
    | some p =>
      obtain ⟨v, s2⟩ := p
      cases v <;> simp only [Option.map_some] <;> try rfl
      split <;> rfl
  case mkI t x =>
    rw [ev_local hr, (sink_same (s := s) (s' := s') hbx).2]
    cases hss : sinkQ true s (x.ev E s) <;> rfl
  case mkF f a b =>
    have ha : ∀ x ∈ a, x.ev E s' = x.ev E s := fun x hx => ev_local (fun t ht => hr t (List.mem_append.2 (.inl (List.mem_flatMap.2 ⟨x, hx, ht⟩))))
    have hb : ∀ x ∈ b, x.ev E s' = x.ev E s := fun x hx => ev_local (fun t ht => hr t (List.mem_append.2 (.inr (List.mem_flatMap.2 ⟨x, hx, ht⟩))))
    rw [map_local ha, map_local hb, mapOpt_congr (fun x hx => by rw [ha x hx]), mapOpt_congr (xs := b) (fun x hx => by rw [hb x hx])]
    split <;> rfl
  case subS x lo hi =>
    rw [ev_local (x := x) (fun t ht => hr t (by simp [ht]))]
    simp only [optInt_local (x := lo) (s := s) (s' := s') (fun t ht => hr t (by simp only [List.mem_append]; exact .inl (.inr ht))), optInt_local (x := hi) (s := s) (s' := s') (fun t ht => hr t (by simp only [List.mem_append]; exact .inr ht))]
    (repeat' split) <;> simp_all
  case subL e x lo hi =>
    rw [ev_local (x := x) (fun t ht => hr t (by simp [ht]))]
    simp only [optInt_local (x := lo) (s := s) (s' := s') (fun t ht => hr t (by simp only [List.mem_append]; exact .inl (.inr ht))), optInt_local (x := hi) (s := s) (s' := s') (fun t ht => hr t (by simp only [List.mem_append]; exact .inr ht))]
    (repeat' split) <;> simp_all
  case call f args =>
    rw [ev_local (x := f) (fun t ht => hr t (by simp [ht])), map_local (fun x hx => ev_local (fun t ht => hr t (List.mem_append.2 (.inr (List.mem_flatMap.2 ⟨x, hx, ht⟩))))), hbx]
    (repeat' split) <;> simp_all
  case bin op x y => rw [ev_local (x := x) (fun t ht => hr t (by simp [ht])), ev_local (x := y) (fun t ht => hr t (by simp [ht]))]; (repeat' split) <;> simp_all
  case eqB op x y => rw [ev_local (x := x) (fun t ht => hr t (by simp [ht])), ev_local (x := y) (fun t ht => hr t (by simp [ht]))]; (repeat' split) <;> simp_all
  case iAddrS e x y => rw [ev_local (x := x) (fun t ht => hr t (by simp [ht])), ev_local (x := y) (fun t ht => hr t (by simp [ht]))]; (repeat' split) <;> simp_all
  case iAddrA n e x y => rw [ev_local (x := x) (fun t ht => hr t (by simp [ht])), ev_local (x := y) (fun t ht => hr t (by simp [ht]))]; (repeat' split) <;> simp_all
  case idxS x y => rw [ev_local (x := x) (fun t ht => hr t (by simp [ht])), ev_local (x := y) (fun t ht => hr t (by simp [ht]))]; (repeat' split) <;> simp_all
  case idxA l e n x y => rw [ev_local (x := x) (fun t ht => hr t (by simp [ht])), ev_local (x := y) (fun t ht => hr t (by simp [ht]))]; (repeat' split) <;> simp_all
  case bad => rfl
  all_goals (rw [ev_local hr]; (repeat' split) <;> simp_all)

end Go.Ev

set_option linter.unusedSimpArgs false
set_option linter.unusedVariables false
namespace Go.Ev
variable {P : Program} {E : Env} {γ : Gh} {a : Act} {w : World} {s : St} {cf : CallF} {q : Bool} {s1 : St} {av : AV}

/-! ### What must come ahead -/

theorem allBefore_get (l : List Oper) : (allBefore l).length = l.length ∧ ∀ (i : Nat) (o : Oper), l[i]? = some o → (allBefore l).getD i 0 = befores ((allBefore l).take i) o := by
  have key : ∀ (l : List Oper) (acc : List Nat), (l.foldl (fun acc o => acc ++ [befores acc o]) acc).length = acc.length + l.length ∧ (l.foldl (fun acc o => acc ++ [befores acc o]) acc).take acc.length = acc ∧
      ∀ (i : Nat) (o : Oper), l[i]? = some o → (l.foldl (fun acc o => acc ++ [befores acc o]) acc).getD (acc.length + i) 0 = befores ((l.foldl (fun acc o => acc ++ [befores acc o]) acc).take (acc.length + i)) o := by
    intro l
    induction l with
    | nil => intro acc; simp
    | cons o l ih =>
      intro acc
      simp only [List.foldl_cons]
      obtain ⟨h1, h2, h3⟩ := ih (acc ++ [befores acc o])
      generalize hr : l.foldl (fun acc o => acc ++ [befores acc o]) (acc ++ [befores acc o]) = r at h1 h2 h3
      simp only [List.length_append, List.length_singleton] at h1 h2 h3
      have htk : r.take acc.length = acc := by
        have := congrArg (List.take acc.length) h2
        rw [List.take_take, Nat.min_eq_left (by omega), List.take_left] at this
        exact this
      refine ⟨by simp [h1]; omega, htk, fun i o' ho => ?_⟩
      cases i with
      | zero =>
        simp only [List.getElem?_cons_zero, Option.some.injEq] at ho
        subst ho
        have h4 : r[acc.length]? = some (befores acc o) := by
          have := congrArg (fun x => x[acc.length]?) h2
          simp only [List.getElem?_take] at this
          rw [if_pos (by omega)] at this
          rw [this]; simp
        rw [Nat.add_zero, List.getD_eq_getElem?_getD, h4, htk]; rfl
      | succ i =>
        have := h3 i o' (by simpa using ho)
        rw [show acc.length + (i + 1) = acc.length + 1 + i from by omega]
        exact this
  obtain ⟨h1, _, h3⟩ := key l []
  exact ⟨by simpa [allBefore] using h1, fun i o ho => by simpa [allBefore] using h3 i o ho⟩

theorem befores_bit {acc : List Nat} {o : Oper} {j : Nat} (h : (befores acc o).testBit j = true) : ∃ e ∈ o.after, Region.binds .any e = true ∧ (j = e.on ∨ (acc.getD e.on 0).testBit j = true) := by
  unfold befores at h
  rw [← Array.foldl_toList] at h
  have key : ∀ (l : List Edge) (s : Nat), (l.foldl (fun s e => if Region.binds .any e then s ||| 2 ^ e.on ||| acc.getD e.on 0 else s) s).testBit j = true → s.testBit j = true ∨ ∃ e ∈ l, Region.binds .any e = true ∧ (j = e.on ∨ (acc.getD e.on 0).testBit j = true) := by
    intro l
    induction l with
    | nil => intro s h; exact .inl h
    | cons e l ih =>
      intro s h
      simp only [List.foldl_cons] at h
      rcases ih _ h with h1 | ⟨e', h1, h2⟩
      · split at h1
        · rename_i hb
          simp only [Nat.testBit_or, Bool.or_eq_true, Nat.testBit_two_pow, decide_eq_true_eq] at h1
          rcases h1 with (h1 | h1) | h1
          · exact .inl h1
          · exact .inr ⟨e, by simp, hb, .inl h1.symm⟩
          · exact .inr ⟨e, by simp, hb, .inr h1⟩
        · exact .inl h1
      · exact .inr ⟨e', by simp [h1], h2⟩
  rcases key _ _ h with h1 | ⟨e, h1, h2⟩
  · simp at h1
  · exact ⟨e, by simpa using h1, h2⟩

/-- What is listed has what comes ahead of it listed. -/
structure Clo (ops : Array Oper) (listed : Array Bool) : Prop where
  size : listed.size = ops.size
  clo : ∀ (i : Nat) (o : Oper), ops[i]? = some o → listed.getD i false = true → ∀ e ∈ o.after, Region.binds .any e = true → listed.getD e.on false = true

theorem Clo.bits {ops : Array Oper} {listed : Array Bool} (hb : edgesBack ops.toList = true) (h : Clo ops listed) : ∀ (i : Nat) (o : Oper), ops[i]? = some o → (∀ e ∈ o.after, Region.binds .any e = true → listed.getD e.on false = true) →
    ∀ j, ((allBefore ops.toList).getD i 0).testBit j = true → listed.getD j false = true ∧ j < i := by
  intro i
  induction i using Nat.strongRecOn with
  | _ i ih =>
    intro o ho hl j hj
    rw [(allBefore_get ops.toList).2 i o (by simpa using ho)] at hj
    obtain ⟨e, h1, h2, h3⟩ := befores_bit hj
    have hback : e.on < i := by
      unfold edgesBack at hb
      rw [List.all_eq_true] at hb
      have h4 := hb (o, i) (List.mem_zipIdx_iff_getElem?.2 (by simpa using ho))
      simp only [Array.all_eq_true'] at h4
      have := h4 e h1
      simpa [h2] using this
    have hlt : e.on < ops.size := by have := (Array.getElem?_eq_some_iff.1 ho).1; omega
    rcases h3 with rfl | h3
    · exact ⟨hl e h1 h2, hback⟩
    · have hle := hl e h1 h2
      rw [List.getD_eq_getElem?_getD, List.getElem?_take, if_pos hback, ← List.getD_eq_getElem?_getD] at h3
      obtain ⟨k1, k2⟩ := ih e.on hback ops[e.on] (by simp [hlt]) (fun e' he' hb' => h.clo e.on _ (by simp [hlt]) hle e' he' hb') j h3
      exact ⟨k1, by omega⟩

theorem Clo.set {ops : Array Oper} {listed : Array Bool} (h : Clo ops listed) {i : Nat} (hi : i ∈ Region.ready .any ops listed) : Clo ops (listed.setIfInBounds i true) := by
  obtain ⟨hu, o, ho, hall⟩ := mem_ready.1 hi
  refine ⟨by simp [h.size], fun j oj hj hl e he hb => ?_⟩
  by_cases hij : i = j
  · subst hij
    rw [ho] at hj
    obtain rfl := Option.some.inj hj
    exact getD_set_true (hall e he hb)
  · rw [getD_set_ne false hij] at hl
    exact getD_set_true (h.clo j oj hj hl e he hb)

theorem getD_tf {listed : Array Bool} {i : Nat} (h : i < listed.size) : listed.getD i true = listed.getD i false := by
  simp [Array.getD_eq_getD_getElem?, h]

/-- The first that is not listed is ready. -/
theorem first_ready {ops : Array Oper} {listed : Array Bool} (hb : edgesBack ops.toList = true) (h : Clo ops listed) {i : Nat} (hi : i < ops.size) (hu : listed.getD i false = false) (hf : ∀ j, j < i → listed.getD j false = true) : i ∈ Region.ready .any ops listed := by
  refine mem_ready.2 ⟨by rw [getD_tf (by rw [h.size]; exact hi)]; exact hu, ops[i], by simp [hi], fun e he hbd => hf _ ?_⟩
  unfold edgesBack at hb
  rw [List.all_eq_true] at hb
  have h4 := hb (ops[i], i) (List.mem_zipIdx_iff_getElem?.2 (by simp [hi]))
  simp only [Array.all_eq_true'] at h4
  have := h4 e he
  simpa [hbd] using this

theorem first_un {n : Nat} {p : Nat → Bool} (h : ∃ i, i < n ∧ p i = false) : ∃ i, i < n ∧ p i = false ∧ ∀ j, j < i → p j = true := by
  induction n with
  | zero => obtain ⟨i, h, _⟩ := h; omega
  | succ n ih =>
    by_cases h' : ∃ i, i < n ∧ p i = false
    · obtain ⟨i, h1, h2⟩ := ih h'; exact ⟨i, by omega, h2⟩
    · obtain ⟨i, h1, h2⟩ := h
      have : i = n := by
        rcases Nat.lt_or_ge i n with h3 | h3
        · exact absurd ⟨i, h3, h2⟩ h'
        · omega
      subst this
      refine ⟨i, h1, h2, fun j hj => ?_⟩
      cases hp : p j with
      | true => rfl
      | false => exact absurd ⟨j, hj, hp⟩ h'

/-- The tail's order is forced. -/
theorem tail_bits {ops : Array Oper} {i : Nat} (hi : i < ops.size) (h : tailFrom (allBefore ops.toList) ≤ i) : ∀ j, j < i → ((allBefore ops.toList).getD i 0).testBit j = true := by
  have key : ∀ (l : List Nat) (k h0 : Nat), (∀ (j : Nat) (x : Nat), l[j]? = some x → (l.zipIdx k).foldl (fun h p => if p.1 = 2 ^ p.2 - 1 then h else p.2 + 1) h0 ≤ k + j → x = 2 ^ (k + j) - 1) ∧ (h0 ≤ k → h0 ≤ (l.zipIdx k).foldl (fun h p => if p.1 = 2 ^ p.2 - 1 then h else p.2 + 1) h0) := by
    intro l
    induction l with
    | nil => intro k h0; simp
    | cons x l ih =>
      intro k h0
      simp only [List.zipIdx_cons, List.foldl_cons]
      by_cases hx : x = 2 ^ k - 1
      · rw [if_pos hx]
        obtain ⟨h1, h2⟩ := ih (k + 1) h0
        refine ⟨fun j y hy hle => ?_, fun h => h2 (by omega)⟩
        cases j with
        | zero => simp only [List.getElem?_cons_zero, Option.some.injEq] at hy; subst hy; exact hx
        | succ j =>
          have := h1 j y (by simpa using hy) (by omega)
          rw [show k + (j + 1) = k + 1 + j from by omega]; exact this
      · rw [if_neg hx]
        obtain ⟨h1, h2⟩ := ih (k + 1) (k + 1)
        have h3 := h2 (Nat.le_refl _)
        refine ⟨fun j y hy hle => ?_, fun h => by omega⟩
        cases j with
        | zero => omega
        | succ j =>
          have := h1 j y (by simpa using hy) (by omega)
          rw [show k + (j + 1) = k + 1 + j from by omega]; exact this
  intro j hj
  have hlen : i < (allBefore ops.toList).length := by rw [(allBefore_get _).1]; simpa using hi
  have h1 := (key (allBefore ops.toList) 0 0).1 i (allBefore ops.toList)[i] (by simp [hlen]) (by simpa [tailFrom] using h)
  rw [List.getD_eq_getElem?_getD, List.getElem?_eq_getElem hlen, Option.getD_some, h1, Nat.testBit_two_pow_sub_one]
  simpa using hj

/-! ### One operation of the head, in any order -/

def fin (s : St) (dst : Option Nat) (v : AV) : Option (Option (Nat × Loc)) → St
  | none => s.put dst v
  | some l => { (s.put dst v) with lz := l }

theorem wants_local {l : List SOp} {o : SOp} {s s' : St} (hr : ∀ t ∈ o.looks l, s'.rd t = s.rd t) : wants l s' o = wants l s o := by
  unfold wants
  cases hg : o.guard with
  | none => rfl
  | some gw =>
    obtain ⟨j, b⟩ := gw
    simp only
    cases hj : l[j]? with
    | none => rfl
    | some g =>
      simp only
      cases hd : g.dst with
      | none => rfl
      | some d =>
        simp only
        rw [hr d (by simp [SOp.looks, hg, hj, hd])]

theorem lazyAfter_local {dst : Option Nat} {op : AOp} {s s' : St} (hlen : s'.tm.length = s.tm.length) (hr : ∀ t ∈ op.reads, s'.rd t = s.rd t) : lazyAfter E s' dst op = lazyAfter E s dst op := by
  cases op with
  | movL t => simp only [lazyAfter, hlen]
  | loadL p => simp only [lazyAfter]; rw [ev_local hr, hlen]
  | _ => rfl

theorem lazyAfter_none {dst : Option Nat} {op : AOp} {s : St} (h : lazyOp op = false) : lazyAfter E s dst op = none := by
  cases op <;> first | rfl | simp [lazyOp] at h

theorem lazyAfter_some {dst : Option Nat} {op : AOp} {s : St} (h : lazyOp op = true) : ∃ r, lazyAfter E s dst op = some r ∧ ∀ d t, r = some (d, .tmp t) → t ∈ op.reads ∧ dst = some d := by
  cases op <;> simp only [lazyOp, Bool.false_eq_true] at h
  · rename_i t
    simp only [lazyAfter]
    split
    · split
      · exact ⟨_, rfl, by simp⟩
      · refine ⟨_, rfl, fun d t' h => ?_⟩
        simp only [Option.some.injEq, Prod.mk.injEq, Loc.tmp.injEq] at h
        obtain ⟨rfl, rfl⟩ := h
        exact ⟨by simp [AOp.reads], rfl⟩
    · exact ⟨_, rfl, by simp⟩
  · simp only [lazyAfter]
    split
    · split
      · exact ⟨_, rfl, by simp⟩
      · exact ⟨_, rfl, by simp⟩
    · exact ⟨_, rfl, by simp⟩

theorem lazyAfter_dst {dst : Option Nat} {op : AOp} {s : St} {d : Nat} {ℓ : Loc} (h : lazyAfter E s dst op = some (some (d, ℓ))) : dst = some d := by
  cases op <;> simp only [lazyAfter, reduceCtorEq] at h
  · split at h
    · split at h <;> simp only [Option.some.injEq, Prod.mk.injEq, reduceCtorEq] at h; rw [h.1]
    · simp at h
  · split at h
    · split at h <;> simp only [Option.some.injEq, Prod.mk.injEq, reduceCtorEq] at h; rw [h.1]
    · simp at h

theorem forgetO_len (s : St) (k : Option Nat) : (s.forgetO k).tm.length = s.tm.length := by cases k <;> simp [St.forgetO, St.forget]
theorem forgetO_lz (s : St) (k : Option Nat) : (s.forgetO k).lz = s.lz := by cases k <;> rfl
theorem forgetO_bx (s : St) (k : Option Nat) : (s.forgetO k).bx = s.bx ∧ (s.forgetO k).df = s.df := by cases k <;> exact ⟨rfl, rfl⟩

theorem opRun_local {l : List SOp} {o : SOp} {s s' s1 : St} (hbx : s'.bx = s.bx) (hlen : s'.tm.length = s.tm.length) (hr : ∀ t ∈ o.looks l, s'.rd t = s.rd t) (hh : headOp o.op = true) (h : opRun E cf true l o s = some s1)
    (hz : lazyOp o.op = true → s.lz = none ∧ s'.lz = none) (hk : o.op.kills ≠ none → o.guard = none ∧ s.lz = none ∧ s'.lz = none) :
    ∃ v r, s1 = fin (s.forgetO o.op.kills) o.dst v r ∧ opRun E cf true l o s' = some (fin (s'.forgetO o.op.kills) o.dst v r) ∧ (lazyOp o.op = false → r = none) ∧ (lazyOp o.op = true → ∃ x, r = some x ∧ ∀ d ℓ, x = some (d, ℓ) → o.dst = some d ∧ ∀ t, ℓ = .tmp t → t ∈ o.looks l) := by
  have hrr : ∀ t ∈ o.op.reads, s'.rd t = s.rd t := fun t ht => hr t (by simp [SOp.looks, ht])
  have hzk : s.lz = s'.lz ∨ o.op.kills = none := by
    cases hkk : o.op.kills with
    | none => exact .inr rfl
    | some t => obtain ⟨_, h1, h2⟩ := hk (by simp [hkk]); exact .inl (by rw [h1, h2])
  unfold opRun at h ⊢
  rw [wants_local hr]
  split at h
  · rename_i hw
    simp only [stepOp] at h ⊢
    rw [stepV_local hzk hbx hrr hh, lazyAfter_local hlen hrr]
    split at h <;> try (simp at h; done)
    rename_i v s2 hst
    have := stepV_same hh hst
    subst this
    rw [hst]
    simp only [Option.map_some]
    cases hl : lazyOp o.op with
    | false =>
      rw [lazyAfter_none hl] at h ⊢
      simp only [Option.some.injEq] at h
      exact ⟨v, none, h.symm, rfl, fun _ => rfl, by simp⟩
    | true =>
      obtain ⟨x, hx, hx2⟩ := lazyAfter_some (E := E) (dst := o.dst) (s := s) hl
      rw [hx] at h ⊢
      simp only [Option.some.injEq] at h
      refine ⟨v, some x, h.symm, rfl, by simp, fun _ => ⟨x, rfl, fun d ℓ hd => ⟨lazyAfter_dst (by rw [hx, hd]), fun t ht => ?_⟩⟩⟩
      subst ht
      have := (hx2 d t hd).1
      simp [SOp.looks, this]
  · rename_i hw
    have hkn : o.op.kills = none := by
      cases hkk : o.op.kills with
      | none => rfl
      | some t =>
        have := (hk (by simp [hkk])).1
        simp [wants, this] at hw
    rw [hkn]
    simp only [St.forgetO]
    simp only [Option.some.injEq] at h ⊢
    cases hl : lazyOp o.op with
    | false => exact ⟨.sv .off, none, h.symm, rfl, fun _ => rfl, by simp⟩
    | true =>
      obtain ⟨z1, z2⟩ := hz hl
      have hput : ∀ (x : St), x.lz = none → x.put o.dst (.sv .off) = { (x.put o.dst (.sv .off)) with lz := none } := by
        intro x hx
        cases o.dst with
        | none => simp only [St.put]; cases x; simp_all
        | some d => simp only [St.put, St.set, hx, clearTmp]
      refine ⟨.sv .off, some none, ?_, ?_, by simp, fun _ => ⟨none, rfl, by simp⟩⟩
      · rw [← h]; exact hput s z1
      · show _ = _; exact hput s' z2
  · simp at h

end Go.Ev

set_option linter.unusedSimpArgs false
set_option linter.unusedVariables false
namespace Go.Ev
variable {P : Program} {E : Env} {γ : Gh} {a : Act} {w : World} {s : St} {cf : CallF} {q : Bool} {s1 : St} {av : AV}

structure DrawOK (ops : Array Oper) (l : List SOp) (h : Nat) : Prop where
  len : l.length = ops.size
  hle : h ≤ l.length
  back : edgesBack ops.toList = true
  tail : tailFrom (allBefore ops.toList) = h
  head : ∀ i o, i < h → l[i]? = some o → headOp o.op = true
  one : ∀ i j oi oj, i < h → j < h → l[i]? = some oi → l[j]? = some oj → lazyOp oi.op = true → lazyOp oj.op = true → i = j
  dst : ∀ i j oi oj d, i < h → j < h → l[i]? = some oi → l[j]? = some oj → oi.dst = some d → oj.dst = some d → i = j
  looks : ∀ i j oi oj t, i < h → j < h → l[i]? = some oi → l[j]? = some oj → t ∈ oi.looks l → oj.dst = some t → ((allBefore ops.toList).getD i 0).testBit j = true
  kill : ∀ i oi t, i < h → l[i]? = some oi → oi.op.kills = some t → oi.guard = none ∧ oi.dst ≠ some t ∧ ∀ j oj, j < h → l[j]? = some oj → lazyOp oj.op = false ∧ (i = j ∨ t ∉ oj.looks l)

theorem drawOK_of {ops : Array Oper} {l : List SOp} {h : Nat} (hd : drawHead ops l = some h) : DrawOK ops l h := by
  unfold drawHead at hd
  simp only at hd
  split at hd <;> simp only [Option.some.injEq, reduceCtorEq] at hd
  rename_i hc
  simp only [Bool.and_eq_true, beq_iff_eq, decide_eq_true_eq] at hc
  obtain ⟨⟨⟨⟨⟨⟨⟨h1, h2⟩, h3⟩, h4⟩, h5⟩, h8⟩, h6⟩, h7⟩ := hc
  have hlen : l.length = ops.size := by simpa using h6
  have hmem : ∀ i o, i < h → l[i]? = some o → (o, i) ∈ (l.take h).zipIdx := fun i o hi ho => List.mem_zipIdx_iff_getElem?.2 (by simp [List.getElem?_take, hi, ho])
  rw [hd] at h2 h3 h4 h5 h7 h8
  refine ⟨hlen, h7, h1, hd, fun i o hi ho => ?_, fun i j oi oj hi hj hoi hoj hli hlj => ?_, fun i j oi oj d hi hj hoi hoj hdi hdj => ?_, fun i j oi oj t hi hj hoi hoj ht hdj => ?_, fun i oi t hi hoi hk => ?_⟩
  · rw [List.all_eq_true] at h2
    exact h2 o (List.mem_of_getElem? (i := i) (by rw [List.getElem?_take, if_pos hi]; exact ho))
  · unfold lazyOne at h3
    rw [List.all_eq_true] at h3
    have := h3 _ (hmem i oi hi hoi)
    rw [List.all_eq_true] at this
    have := this _ (hmem j oj hj hoj)
    simpa [hli, hlj] using this
  · unfold dstsOK at h4
    rw [List.all_eq_true] at h4
    have := h4 _ (hmem i oi hi hoi)
    rw [List.all_eq_true] at this
    have := this _ (hmem j oj hj hoj)
    simpa [hdi, hdj] using this
  · unfold looksOK at h5
    rw [List.all_eq_true] at h5
    have := h5 _ (hmem i oi hi hoi)
    rw [List.all_eq_true] at this
    have := this t ht
    rw [List.all_eq_true] at this
    have := this _ (hmem j oj hj hoj)
    simpa [hdj] using this
  · unfold killsOK at h8
    rw [List.all_eq_true] at h8
    have := h8 _ (hmem i oi hi hoi)
    simp only [hk, Bool.and_eq_true, List.all_eq_true, beq_iff_eq, bne_iff_ne, ne_eq] at this
    obtain ⟨⟨g1, g2⟩, g3⟩ := this
    refine ⟨by simpa using g1, by simpa using g2, fun j oj hj hoj => ?_⟩
    have := g3 _ (hmem j oj hj hoj)
    simpa using this

/-- The head's states in the text's order. -/
def hs (E : Env) (cf : CallF) (l : List SOp) (s0 : St) : Nat → St
  | 0 => s0
  | i + 1 => match l[i]? with
    | some o => (opRun E cf true l o (hs E cf l s0 i)).getD (hs E cf l s0 i)
    | none => hs E cf l s0 i

theorem hs_run {l : List SOp} {s0 sH : St} {h : Nat} (hl : h ≤ l.length) : ∀ (k i : Nat), i + k = h → runOps E cf true l ((l.drop i).take k) (hs E cf l s0 i) = some sH →
    (∀ j o, i ≤ j → j < h → l[j]? = some o → opRun E cf true l o (hs E cf l s0 j) = some (hs E cf l s0 (j + 1))) ∧ hs E cf l s0 h = sH
  | 0, i, hi, hr => by
    simp only [List.take_zero, runOps, Option.some.injEq] at hr
    rw [Nat.add_zero] at hi
    subst hi
    exact ⟨fun j o h1 h2 => by omega, hr⟩
  | k + 1, i, hi, hr => by
    have hil : i < l.length := by omega
    have hg : l[i]? = some l[i] := by simp [hil]
    rw [drop_cons hg, List.take_succ_cons] at hr
    simp only [runOps] at hr
    split at hr <;> try (simp at hr; done)
    rename_i s2 hs2
    have hnext : hs E cf l s0 (i + 1) = s2 := by simp only [hs, hg, hs2, Option.getD_some]
    rw [← hnext] at hr
    obtain ⟨k1, k2⟩ := hs_run hl k (i + 1) (by omega) hr
    refine ⟨fun j o h1 h2 ho => ?_, k2⟩
    by_cases hj : j = i
    · subst hj
      rw [hg] at ho
      obtain rfl := Option.some.inj ho
      rw [hnext]; exact hs2
    · exact k1 j o (by omega) h2 ho

theorem fin_bx (s : St) (d : Option Nat) (v : AV) (r : Option (Option (Nat × Loc))) : (fin s d v r).bx = s.bx ∧ (fin s d v r).df = s.df ∧ (fin s d v r).tm.length = s.tm.length := by
  cases r <;> cases d <;> simp [fin, St.put, St.set]

theorem rd_big {s : St} {t : Nat} (h : s.tm.length ≤ t) : s.rd t = .sv .undef := by
  simp only [St.rd, List.getD_eq_getElem?_getD]
  rw [List.getElem?_eq_none h]; rfl

theorem fin_rd_ne (s : St) (d : Option Nat) (v : AV) (r : Option (Option (Nat × Loc))) {t : Nat} (h : d ≠ some t) : (fin s d v r).rd t = s.rd t := by
  have key : (s.put d v).rd t = s.rd t := by
    cases d with
    | none => rfl
    | some d' =>
      simp only [St.put, St.rd, St.set, List.getD_eq_getElem?_getD, List.getElem?_set]
      rw [if_neg (by intro e; exact h (by rw [e]))]
  cases r with
  | none => exact key
  | some x => exact key

theorem fin_rd_eq (s s' : St) (v : AV) (r : Option (Option (Nat × Loc))) {t : Nat} (hl : s'.tm.length = s.tm.length) : (fin s (some t) v r).rd t = (fin s' (some t) v r).rd t := by
  have key : ∀ x : St, (fin x (some t) v r).rd t = if t < x.tm.length then v else .sv .undef := by
    intro x
    have : (fin x (some t) v r).rd t = (x.put (some t) v).rd t := by cases r <;> rfl
    rw [this]
    by_cases ht : t < x.tm.length
    · rw [St.put, rd_set x t t v ht, if_pos rfl, if_pos ht]
    · rw [if_neg ht, rd_big (by simp [St.put, St.set]; omega)]
  rw [key, key, hl]

theorem fin_lz_none (s : St) (d : Option Nat) (v : AV) (h : s.lz = none) : (fin s d v none).lz = none := by
  cases d <;> simp [fin, St.put, St.set, h, clearTmp]

theorem fin_lz_keep (s : St) (d : Option Nat) (v : AV) (h : ∀ d' ℓ, s.lz = some (d', ℓ) → d ≠ some d' ∧ ∀ t, ℓ = .tmp t → d ≠ some t) : (fin s d v none).lz = s.lz := by
  cases d with
  | none => rfl
  | some x =>
    simp only [fin, St.put, St.set]
    cases hz : s.lz with
    | none => rfl
    | some p =>
      obtain ⟨d', ℓ⟩ := p
      obtain ⟨h1, h2⟩ := h d' ℓ hz
      simp only [clearTmp]
      rw [if_neg (by intro e; exact h1 (by rw [e]))]
      cases ℓ with
      | tmp t => simp only; rw [if_neg (by intro e; exact h2 t rfl (by rw [e]))]
      | _ => rfl

theorem bits_lt {ops : Array Oper} (hback : edgesBack ops.toList = true) : ∀ k, k < ops.size → ∀ j, ((allBefore ops.toList).getD k 0).testBit j = true → j < k := by
  intro k hk j hj
  have hcl : Clo ops (Array.replicate ops.size true) := ⟨by simp, fun i' o' hi' _ e he hb => by
    have hbk := hback
    unfold edgesBack at hbk
    rw [List.all_eq_true] at hbk
    have h4 := hbk (o', i') (List.mem_zipIdx_iff_getElem?.2 (by simpa using hi'))
    simp only [Array.all_eq_true'] at h4
    have h5 : e.on < i' := by simpa [hb] using h4 e he
    have h6 := (Array.getElem?_eq_some_iff.1 hi').1
    have : e.on < ops.size := by omega
    simp [Array.getD_eq_getD_getElem?, this]⟩
  exact (hcl.bits hback k ops[k] (by simp [hk]) (fun e he hb => hcl.clo k _ (by simp [hk]) (by simp [Array.getD_eq_getD_getElem?, hk]) e he hb) j hj).2

section head
variable {ops : Array Oper} {l : List SOp} {h : Nat} {s0 : St} (hD : DrawOK ops l h) (hz0 : s0.lz = none)
  (hrun : ∀ j o, j < h → l[j]? = some o → opRun E cf true l o (hs E cf l s0 j) = some (hs E cf l s0 (j + 1)))

/-- What is so after some of the head's operations. -/
structure HI (E : Env) (cf : CallF) (l : List SOp) (h : Nat) (s0 : St) (p : Nat → Bool) (s : St) : Prop where
  bx : s.bx = s0.bx
  df : s.df = s0.df
  len : s.tm.length = s0.tm.length
  rdN : ∀ t, (∀ i o, i < h → l[i]? = some o → o.dst = some t ∨ o.op.kills = some t → p i = false) → s.rd t = s0.rd t
  rdV : ∀ i o t, i < h → l[i]? = some o → o.dst = some t → p i = true → (∀ k ok, k < h → l[k]? = some ok → ok.op.kills = some t → p k = false) → s.rd t = (hs E cf l s0 (i + 1)).rd t
  rdK : ∀ k o t, k < h → l[k]? = some o → o.op.kills = some t → p k = true → s.rd t = .sv .undef
  lzN : (∀ i o, i < h → l[i]? = some o → lazyOp o.op = true → p i = false) → s.lz = none
  lzV : ∀ i o, i < h → l[i]? = some o → lazyOp o.op = true → p i = true → s.lz = (hs E cf l s0 (i + 1)).lz

/-- What the head's read of what is appended to left. -/
def LzP (E : Env) (cf : CallF) (l : List SOp) (s0 : St) (k : Nat) (o : SOp) : Prop :=
  ∀ d ℓ, (hs E cf l s0 (k + 1)).lz = some (d, ℓ) → o.dst = some d ∧ ∀ t, ℓ = .tmp t → t ∈ o.looks l

theorem HI.step {p : Nat → Bool} {s : St} (hI : HI E cf l h s0 p s) {i : Nat} {o : SOp} (hS : HI E cf l h s0 (fun j => decide (j < i)) (hs E cf l s0 i)) (hD : DrawOK ops l h)
    (hrun : ∀ j o, j < h → l[j]? = some o → opRun E cf true l o (hs E cf l s0 j) = some (hs E cf l s0 (j + 1)))
    (hih : i < h) (ho : l[i]? = some o) (hu : p i = false) (hbits : ∀ j, ((allBefore ops.toList).getD i 0).testBit j = true → p j = true ∧ j < i)
    (hlater : ∀ k, k < h → p k = true → ((allBefore ops.toList).getD k 0).testBit i = true → False) (hLz : ∀ k o, k < h → l[k]? = some o → lazyOp o.op = true → p k = true → LzP E cf l s0 k o) :
    ∃ s2, opRun E cf true l o s = some s2 ∧ HI E cf l h s0 (fun j => p j || decide (j = i)) s2 ∧ (lazyOp o.op = true → LzP E cf l s0 i o) := by
  have hr := hrun i o hih ho
  have hlen : s.tm.length = (hs E cf l s0 i).tm.length := by rw [hI.len, hS.len]
  have hkl : ∀ k ok t, k < h → l[k]? = some ok → ok.op.kills = some t → t ∈ ok.looks l := by
    intro k ok t _ _ hk
    have : t ∈ ok.op.reads := by
      revert hk
      cases ok.op <;> simp only [AOp.kills, reduceCtorEq, false_implies]
      rename_i e k b d x y
      cases x <;> simp only [reduceCtorEq, false_implies, Option.some.injEq]
      rintro rfl
      simp [AOp.reads, Opd.reads]
    simp [SOp.looks, this]
  have halone : ∀ k ok t, k < h → l[k]? = some ok → ok.op.kills = some t → t ∈ o.looks l → k = i := by
    intro k ok t hk hok hkk ht
    rcases ((hD.kill k ok t hk hok hkk).2.2 i o hih ho).2 with e | e
    · exact e
    · exact absurd ht e
  have hlooks : ∀ t ∈ o.looks l, s.rd t = (hs E cf l s0 i).rd t := by
    intro t ht
    by_cases hex : ∃ j oj, j < h ∧ l[j]? = some oj ∧ oj.dst = some t
    · obtain ⟨j, oj, hj, hoj, hdj⟩ := hex
      obtain ⟨b1, b2⟩ := hbits j (hD.looks i j o oj t hih hj ho hoj ht hdj)
      rw [hI.rdV j oj t hj hoj hdj b1 (fun k ok hk hok hkk => by rw [halone k ok t hk hok hkk ht]; exact hu), hS.rdV j oj t hj hoj hdj (by simpa using b2) (fun k ok hk hok hkk => by rw [halone k ok t hk hok hkk ht]; simp)]
    · have hno : ∀ j oj, j < h → l[j]? = some oj → oj.dst ≠ some t := fun j oj h1 h2 h3 => hex ⟨j, oj, h1, h2, h3⟩
      rw [hI.rdN t (fun j oj h1 h2 h3 => by
          rcases h3 with h3 | h3
          · exact absurd h3 (hno j oj h1 h2)
          · rw [halone j oj t h1 h2 h3 ht]; exact hu), hS.rdN t (fun j oj h1 h2 h3 => by
          rcases h3 with h3 | h3
          · exact absurd h3 (hno j oj h1 h2)
          · rw [halone j oj t h1 h2 h3 ht]; simp)]
  have hlz : lazyOp o.op = true → (hs E cf l s0 i).lz = none ∧ s.lz = none := by
    intro hl
    refine ⟨hS.lzN (fun j oj hj hoj hlj => ?_), hI.lzN (fun j oj hj hoj hlj => ?_)⟩
    · have := hD.one i j o oj hih hj ho hoj hl hlj
      subst this; simp
    · have := hD.one i j o oj hih hj ho hoj hl hlj
      subst this; exact hu
  have hkz : o.op.kills ≠ none → o.guard = none ∧ (hs E cf l s0 i).lz = none ∧ s.lz = none := by
    intro hk
    obtain ⟨t, ht⟩ := Option.ne_none_iff_exists'.1 hk
    obtain ⟨k1, k2, k3⟩ := hD.kill i o t hih ho ht
    exact ⟨k1, hS.lzN (fun j oj hj hoj hlj => by rw [(k3 j oj hj hoj).1] at hlj; simp at hlj), hI.lzN (fun j oj hj hoj hlj => by rw [(k3 j oj hj hoj).1] at hlj; simp at hlj)⟩
  obtain ⟨v, r, e1, e2, e3, e4⟩ := opRun_local (s := hs E cf l s0 i) (s' := s) (by rw [hI.bx, hS.bx]) hlen hlooks (hD.head i o hih ho) hr hlz hkz
  have hfne : ∀ (x : St) t, o.op.kills ≠ some t → (x.forgetO o.op.kills).rd t = x.rd t := by
    intro x t hne
    cases hk : o.op.kills with
    | none => rfl
    | some u =>
      have : u ≠ t := fun e => hne (by rw [hk, e])
      simp only [St.forgetO, St.forget, St.rd, List.getD_eq_getElem?_getD, List.getElem?_set, if_neg this]
  have hfeq : ∀ (x : St) t, o.op.kills = some t → (x.forgetO o.op.kills).rd t = .sv .undef := by
    intro x t hk
    rw [hk]
    simp only [St.forgetO, St.forget, St.rd, List.getD_eq_getElem?_getD, List.getElem?_set, if_true]
    split <;> rfl
  refine ⟨_, e2, ?_, fun hl d ℓ hd => ?_⟩
  · obtain ⟨f1, f2, f3⟩ := fin_bx (s.forgetO o.op.kills) o.dst v r
    obtain ⟨f4, f5⟩ := forgetO_bx s o.op.kills
    have f6 := forgetO_len s o.op.kills
    refine ⟨f1.trans (f4.trans hI.bx), f2.trans (f5.trans hI.df), f3.trans (f6.trans hI.len), fun t ht => ?_, fun j oj t hj hoj hdj hpj hnk => ?_, fun k ok t hk hok hkk hpk => ?_, fun hn => ?_, fun j oj hj hoj hlj hpj => ?_⟩
    · have hne : o.dst ≠ some t := fun e => by have := ht i o hih ho (.inl e); simp at this
      have hne2 : o.op.kills ≠ some t := fun e => by have := ht i o hih ho (.inr e); simp at this
      rw [fin_rd_ne _ o.dst v r hne, hfne s t hne2]
      exact hI.rdN t (fun j oj h1 h2 h3 => by have := ht j oj h1 h2 h3; simp only [Bool.or_eq_false_iff] at this; exact this.1)
    · have hne2 : o.op.kills ≠ some t := fun e => by have := hnk i o hih ho e; simp at this
      by_cases hji : j = i
      · subst hji
        rw [ho] at hoj
        obtain rfl := Option.some.inj hoj
        rw [hdj] at e1 ⊢
        rw [e1]
        exact fin_rd_eq _ _ _ _ (by rw [forgetO_len, forgetO_len]; exact hlen.symm)
      · have hne : o.dst ≠ some t := fun e => hji (hD.dst j i oj o t hj hih hoj ho hdj e)
        rw [fin_rd_ne _ o.dst v r hne, hfne s t hne2]
        exact hI.rdV j oj t hj hoj hdj (by simpa [hji] using hpj) (fun k ok h1 h2 h3 => by have := hnk k ok h1 h2 h3; simp only [Bool.or_eq_false_iff] at this; exact this.1)
    · by_cases hki : k = i
      · subst hki
        rw [ho] at hok
        obtain rfl := Option.some.inj hok
        rw [fin_rd_ne _ o.dst v r (hD.kill k o t hk ho hkk).2.1]
        exact hfeq s t hkk
      · have hpk' : p k = true := by simpa [hki] using hpk
        have hne : o.dst ≠ some t := fun e => hlater k hk hpk' (hD.looks k i ok o t hk hih hok ho (hkl k ok t hk hok hkk) e)
        have hne2 : o.op.kills ≠ some t := fun e => hki (halone k ok t hk hok hkk (hkl i o t hih ho e))
        rw [fin_rd_ne _ o.dst v r hne, hfne s t hne2]
        exact hI.rdK k ok t hk hok hkk hpk'
    · have hlo : lazyOp o.op = false := by
        cases hl : lazyOp o.op with
        | false => rfl
        | true => have := hn i o hih ho hl; simp at this
      rw [e3 hlo]
      exact fin_lz_none _ o.dst v ((forgetO_lz s _).trans (hI.lzN (fun j oj h1 h2 h3 => by have := hn j oj h1 h2 h3; simp only [Bool.or_eq_false_iff] at this; exact this.1)))
    · by_cases hji : j = i
      · subst hji
        rw [ho] at hoj
        obtain rfl := Option.some.inj hoj
        obtain ⟨x, hx, _⟩ := e4 hlj
        rw [e1, hx]
        rfl
      · have hpj' : p j = true := by simpa [hji] using hpj
        have hlo : lazyOp o.op = false := by
          cases hl : lazyOp o.op with
          | false => rfl
          | true => exact absurd (hD.one j i oj o hj hih hoj ho hlj hl) hji
        have hsl := hI.lzV j oj hj hoj hlj hpj'
        rw [e3 hlo, fin_lz_keep (s.forgetO o.op.kills) o.dst v (fun d' ℓ hd => ?_)]
        · exact (forgetO_lz s _).trans hsl
        · rw [forgetO_lz, hsl] at hd
          obtain ⟨g1, g2⟩ := hLz j oj hj hoj hlj hpj' d' ℓ hd
          refine ⟨fun e => hji (hD.dst j i oj o d' hj hih hoj ho g1 e), fun t ht e => ?_⟩
          exact hlater j hj hpj' (hD.looks j i oj o t hj hih hoj ho (g2 t ht) e)
  · obtain ⟨x, hx, hx2⟩ := e4 hl
    rw [e1, hx] at hd
    exact hx2 d ℓ hd

include hD hz0 hrun in
/-- The text's order is one of the orders. -/
theorem hs_HI : ∀ i, i ≤ h → HI E cf l h s0 (fun j => decide (j < i)) (hs E cf l s0 i) ∧ ∀ k o, k < i → l[k]? = some o → lazyOp o.op = true → LzP E cf l s0 k o
  | 0, _ => ⟨⟨rfl, rfl, rfl, fun _ _ => rfl, fun i o t _ _ _ h => by simp at h, fun i o t _ _ _ h => by simp at h, fun _ => hz0, fun i o _ _ _ h => by simp at h⟩, fun k o h => by omega⟩
  | i + 1, hi => by
    have hih : i < h := by omega
    have hil : i < l.length := by have := hD.hle; omega
    have ho : l[i]? = some l[i] := by simp [hil]
    obtain ⟨hI, hLz⟩ := hs_HI i (by omega)
    have hedge := bits_lt hD.back
    have hios : i < ops.size := by rw [← hD.len]; exact hil
    obtain ⟨s2, h1, h2, h3⟩ := HI.step (p := fun j => decide (j < i)) (s := hs E cf l s0 i) hI hI hD hrun hih ho (by simp) (fun j hj => ⟨by simpa using hedge i hios j hj, hedge i hios j hj⟩) (fun k hk hp hb => by
        have : k < i := by simpa using hp
        have := hedge k (by omega) i hb
        omega) (fun k o hk hok hlk hp => hLz k o (by simpa using hp) hok hlk)
    have h4 := hrun i _ hih ho
    rw [h4] at h1
    obtain rfl := Option.some.inj h1
    have hp : (fun j => decide (j < i) || decide (j = i)) = fun j => decide (j < i + 1) := by
      funext j
      by_cases hj : j < i
      · simp [hj]; omega
      · by_cases hj2 : j = i
        · simp [hj2]
        · simp [hj, hj2]; omega
    rw [hp] at h2
    refine ⟨h2, fun k o hk hok hlk => ?_⟩
    by_cases hki : k = i
    · subst hki
      rw [ho] at hok
      obtain rfl := Option.some.inj hok
      exact h3 hlk
    · exact hLz k o (by omega) hok hlk

end head

end Go.Ev

set_option linter.unusedSimpArgs false
set_option linter.unusedVariables false
namespace Go.Ev
variable {P : Program} {E : Env} {γ : Gh} {a : Act} {w : World} {s : St} {cf : CallF} {q : Bool} {s1 : St} {av : AV}

def unl (listed : Array Bool) : Nat := listed.toList.countP (fun b => !b)

theorem unl_set {listed : Array Bool} {i : Nat} (hi : i < listed.size) (hu : listed.getD i false = false) : unl (listed.setIfInBounds i true) + 1 = unl listed := by
  have hg : listed.toList[i]'(by simpa using hi) = false := by
    simp [Array.getD_eq_getD_getElem?, hi] at hu
    simpa using hu
  unfold unl
  rw [Array.toList_setIfInBounds, List.countP_set (by simpa using hi), hg]
  have : 0 < List.countP (fun b => !b) listed.toList := by
    rw [List.countP_pos_iff]
    exact ⟨false, by rw [← hg]; exact List.getElem_mem _, rfl⟩
  simp only [Bool.not_false, if_true, Bool.not_true, Bool.false_eq_true, if_false]
  omega

theorem unl_zero {listed : Array Bool} (h : unl listed = 0) : ∀ i, i < listed.size → listed.getD i false = true := by
  intro i hi
  unfold unl at h
  rw [List.countP_eq_zero] at h
  have := h listed[i] (by simp)
  simp [Array.getD_eq_getD_getElem?, hi]
  simpa using this

theorem set_p {listed : Array Bool} {i : Nat} (hi : i < listed.size) : (fun j => (listed.setIfInBounds i true).getD j false) = fun j => listed.getD j false || decide (j = i) := by
  funext j
  by_cases hij : i = j
  · subst hij; simp [Array.getD_eq_getD_getElem?, hi]
  · rw [getD_set_ne false hij]; simp [Ne.symm hij]

theorem st_ext {s s' : St} (hlen : s.tm.length = s'.tm.length) (hrd : ∀ t, s.rd t = s'.rd t) (hl : s.lz = s'.lz) (hb : s.bx = s'.bx) (hd : s.df = s'.df) : s = s' := by
  have htm : s.tm = s'.tm := by
    apply List.ext_getElem hlen
    intro t h1 h2
    have := hrd t
    simpa [St.rd, List.getD_eq_getElem?_getD, h1, h2] using this
  cases s; cases s'; simp_all

section
variable {ops : Array Oper} {l : List SOp} {h : Nat} {s0 sF : St} {Q : Exit → Act → World → Prop} {γ0 : Gh} {w0 : World}

theorem any_ok (hP : PureOK P E) (hC : CfOK P E cf) (hl : allSome (ops.toList.map (cOper P ops)) = some l) (hD : DrawOK ops l h) (hz0 : s0.lz = none)
    (hrun : ∀ j o, j < h → l[j]? = some o → opRun E cf true l o (hs E cf l s0 j) = some (hs E cf l s0 (j + 1))) (htail : runOps E cf false l (l.drop h) (hs E cf l s0 h) = some sF)
    (hQ : ∀ γ' a' w', Ext γ0 w0 γ' w' → R P γ' a' w' sF → Q .normal a' w') :
    ∀ (fuel : Nat) (listed : Array Bool) (γ : Gh) (a : Act) (w : World) (s : St), Clo ops listed → unl listed = fuel → R P γ a w s → GlobOK E γ → Ext γ0 w0 γ w →
      (((∃ i, i < h ∧ listed.getD i false = false) ∧ HI E cf l h s0 (fun j => listed.getD j false) s) ∨ ∃ k, h ≤ k ∧ (∀ i, i < ops.size → (listed.getD i false = true ↔ i < k)) ∧ runOps E cf false l (l.drop k) s = some sF) →
      wpAny P .any ops Q fuel listed a w := by
  have hall := hs_HI hD hz0 hrun
  have hend : ∀ (listed : Array Bool) (γ : Gh) (a : Act) (w : World) (s : St), Clo ops listed → R P γ a w s → Ext γ0 w0 γ w →
      (((∃ i, i < h ∧ listed.getD i false = false) ∧ HI E cf l h s0 (fun j => listed.getD j false) s) ∨ ∃ k, h ≤ k ∧ (∀ i, i < ops.size → (listed.getD i false = true ↔ i < k)) ∧ runOps E cf false l (l.drop k) s = some sF) →
      Region.ready .any ops listed = [] → Q .normal a w := by
    intro listed γ a w s hclo hR hE hor hnil
    rcases hor with ⟨hex, _⟩ | ⟨k, hk, hlist, hr⟩
    · obtain ⟨i, h1, h2, h3⟩ := first_un (p := fun j => listed.getD j false) hex
      have := first_ready hD.back hclo (i := i) (by have := hD.hle; have := hD.len; omega) h2 h3
      rw [hnil] at this; simp at this
    · have hks : ops.size ≤ k := by
        refine Decidable.byContradiction fun hn => ?_
        have hkl : k < ops.size := by omega
        have hu : listed.getD k false = false := by
          cases hx : listed.getD k false with
          | false => rfl
          | true => have := (hlist k hkl).1 hx; omega
        have := first_ready hD.back hclo hkl hu (fun j hj => (hlist j (by omega)).2 hj)
        rw [hnil] at this; simp at this
      rw [List.drop_eq_nil_of_le (by rw [hD.len]; exact hks)] at hr
      simp only [runOps, Option.some.injEq] at hr
      subst hr
      exact hQ γ a w hE hR
  intro fuel
  induction fuel with
  | zero =>
    intro listed γ a w s hclo hun hR hG hE hor
    have hz := unl_zero hun
    have hnil : Region.ready .any ops listed = [] := by
      cases hr : Region.ready .any ops listed with
      | nil => rfl
      | cons x xs =>
        have hx : x ∈ Region.ready .any ops listed := by rw [hr]; simp
        obtain ⟨h1, o, ho, _⟩ := mem_ready.1 hx
        have hxs := (Array.getElem?_eq_some_iff.1 ho).1
        have := hz x (by rw [hclo.size]; exact hxs)
        rw [getD_tf (by rw [hclo.size]; exact hxs), this] at h1
        simp at h1
    exact ⟨hnil, hend listed γ a w s hclo hR hE hor hnil⟩
  | succ fuel ih =>
    intro listed γ a w s hclo hun hR hG hE hor
    refine ⟨hend listed γ a w s hclo hR hE hor, fun i hi => ?_⟩
    obtain ⟨hu0, oi, hoi, hedges⟩ := mem_ready.1 hi
    have his := (Array.getElem?_eq_some_iff.1 hoi).1
    have hu : listed.getD i false = false := by rw [← getD_tf (by rw [hclo.size]; exact his)]; exact hu0
    have hbits := hclo.bits hD.back i oi hoi hedges
    have hun' : unl (listed.setIfInBounds i true) = fuel := by have := unl_set (by rw [hclo.size]; exact his) hu; omega
    have hclo' := hclo.set hi
    obtain ⟨so, hso, _⟩ := (all_get hl).2 i oi hoi
    have hset := set_p (listed := listed) (i := i) (by rw [hclo.size]; exact his)
    have hlb : ∀ k, k < ops.size → listed.getD k false = true → ∀ j, ((allBefore ops.toList).getD k 0).testBit j = true → listed.getD j false = true := fun k hk hlk j hj =>
      (hclo.bits hD.back k ops[k] (by simp [hk]) (fun e he hb => hclo.clo k _ (by simp [hk]) hlk e he hb) j hj).1
    rcases hor with ⟨⟨i0, hi0, hu1⟩, hI⟩ | ⟨k, hk, hlist, hr⟩
    · have hih : i < h := by
        refine Decidable.byContradiction fun hn => ?_
        have := (hbits i0 (tail_bits his (by rw [hD.tail]; omega) i0 (by omega))).1
        rw [hu1] at this; simp at this
      obtain ⟨s2, g1, g2, _⟩ := HI.step hI (hall i (by omega)).1 hD hrun hih hso hu hbits (fun k hk hp hb => by
        have := hlb k (by have := hD.hle; have := hD.len; omega) hp i hb
        rw [hu] at this; simp at this) (fun k o hk hok hlk _ => (hall h (Nat.le_refl _)).2 k o hk hok hlk)
      refine opRun_ok hP hC hR hG hl hso g1 (fun γ' a' w' he hR' => ih _ γ' a' w' s2 hclo' hun' hR' (hG.mono he.F) (hE.trans he) ?_)
      rw [← hset] at g2
      by_cases hex : ∃ j, j < h ∧ (listed.setIfInBounds i true).getD j false = false
      · exact .inl ⟨hex, g2⟩
      · right
        have hallh : ∀ j, j < h → (listed.setIfInBounds i true).getD j false = true := fun j hj => by
          cases hx : (listed.setIfInBounds i true).getD j false with
          | true => rfl
          | false => exact absurd ⟨j, hj, hx⟩ hex
        have hH := (hall h (Nat.le_refl _)).1
        have hsH : s2 = hs E cf l s0 h := by
          refine st_ext (by rw [g2.len, hH.len]) (fun t => ?_) ?_ (by rw [g2.bx, hH.bx]) (by rw [g2.df, hH.df])
          · by_cases hkx : ∃ k ok, k < h ∧ l[k]? = some ok ∧ ok.op.kills = some t
            · obtain ⟨k, ok, hk, hok, hkk⟩ := hkx
              rw [g2.rdK k ok t hk hok hkk (hallh k hk), hH.rdK k ok t hk hok hkk (by simpa using hk)]
            by_cases hdx : ∃ j oj, j < h ∧ l[j]? = some oj ∧ oj.dst = some t
            · obtain ⟨j, oj, hj, hoj, hdj⟩ := hdx
              rw [g2.rdV j oj t hj hoj hdj (hallh j hj) (fun k ok h1 h2 h3 => absurd ⟨k, ok, h1, h2, h3⟩ hkx), hH.rdV j oj t hj hoj hdj (by simpa using hj) (fun k ok h1 h2 h3 => absurd ⟨k, ok, h1, h2, h3⟩ hkx)]
            · rw [g2.rdN t (fun j oj h1 h2 h3 => h3.elim (fun h3 => absurd ⟨j, oj, h1, h2, h3⟩ hdx) (fun h3 => absurd ⟨j, oj, h1, h2, h3⟩ hkx)), hH.rdN t (fun j oj h1 h2 h3 => h3.elim (fun h3 => absurd ⟨j, oj, h1, h2, h3⟩ hdx) (fun h3 => absurd ⟨j, oj, h1, h2, h3⟩ hkx))]
          · by_cases hlx : ∃ j oj, j < h ∧ l[j]? = some oj ∧ lazyOp oj.op = true
            · obtain ⟨j, oj, hj, hoj, hlj⟩ := hlx
              rw [g2.lzV j oj hj hoj hlj (hallh j hj), hH.lzV j oj hj hoj hlj (by simpa using hj)]
            · rw [g2.lzN (fun j oj h1 h2 h3 => absurd ⟨j, oj, h1, h2, h3⟩ hlx), hH.lzN (fun j oj h1 h2 h3 => absurd ⟨j, oj, h1, h2, h3⟩ hlx)]
        refine ⟨h, Nat.le_refl _, fun j hj => ⟨fun hlj => ?_, fun hjh => hallh j hjh⟩, by rw [hsH]; exact htail⟩
        refine Decidable.byContradiction fun hn => ?_
        have hji : i ≠ j := by omega
        rw [getD_set_ne false hji] at hlj
        have := hlb j hj hlj i (tail_bits hj (by rw [hD.tail]; omega) i (by omega))
        rw [hu] at this; simp at this
    · have hik : i = k := by
        have h1 : ¬ i < k := fun hlt => by have := (hlist i his).2 hlt; rw [hu] at this; simp at this
        refine Decidable.byContradiction fun hn => ?_
        have hkl : k < i := by omega
        have := (hbits k (tail_bits his (by rw [hD.tail]; omega) k hkl)).1
        have := (hlist k (by omega)).1 this
        omega
      subst hik
      rw [drop_cons hso] at hr
      simp only [runOps] at hr
      split at hr <;> try (simp at hr; done)
      rename_i s2 hs2
      refine opRun_ok hP hC hR hG hl hso hs2 (fun γ' a' w' he hR' => ih _ γ' a' w' s2 hclo' hun' hR' (hG.mono he.F) (hE.trans he) (.inr ⟨i + 1, by omega, fun j hj => ?_, hr⟩))
      have hb : (listed.setIfInBounds i true).getD j false = (listed.getD j false || decide (j = i)) := congrFun hset j
      rw [hb]
      have := hlist j hj
      by_cases hji : j = i
      · subst hji; simp
      · simp only [hji, decide_false, Bool.or_false]
        rw [this]; omega

theorem region_draw (hm : P.follows .mixedOrders = true) (hP : PureOK P E) (hC : CfOK P E cf) (hR : R P γ a w s) (hG : GlobOK E γ) (hz : s.lz = none) {id : Nat} (hl : allSome (ops.toList.map (cOper P ops)) = some l) (hd : drawHead ops l = some h) {sH : St}
    (h1 : runOps E cf true l (l.take h) s = some sH) (h2 : runOps E cf false l (l.drop h) sH = some sF) (hQ : ∀ γ' a' w', Ext γ w γ' w' → R P γ' a' w' sF → Q .normal a' w') : (Code.region id ops true).wp P Q a w := by
  have hD := drawOK_of hd
  obtain ⟨k1, k2⟩ := hs_run (E := E) (cf := cf) (l := l) (s0 := s) hD.hle h 0 (by omega) (by show runOps E cf true l ((l.drop 0).take h) s = _; rw [List.drop_zero]; exact h1)
  have hrun : ∀ j o, j < h → l[j]? = some o → opRun E cf true l o (hs E cf l s j) = some (hs E cf l s (j + 1)) := fun j o hj ho => k1 j o (by omega) hj ho
  refine wp_region_any hm ?_
  have hR' : R P γ a { w with drawn := w.drawn + 1 } s := by
    have hf : Fresh γ w γ { w with drawn := w.drawn + 1 } := ⟨rfl, rfl, rfl, Nat.le_refl _, fun _ _ => rfl, fun _ _ _ h => h, fun _ _ _ _ h => h, hR.bx.Fw, rfl, fun _ _ => rfl, fun b ℓ hl ho => by have := (hR.bx.ow b ℓ ho).1; omega⟩
    exact hf.R hR
  have hE : Ext γ w γ { w with drawn := w.drawn + 1 } := ⟨rfl, rfl, rfl, Nat.le_refl _, fun _ _ _ h => h, ⟨[], by simp, by simp⟩, fun _ _ => rfl, fun _ _ _ _ h => h, fun _ h => h.2.2⟩
  have hgf : ∀ j, (Array.replicate ops.size false).getD j false = false := fun j => by
    simp only [Array.getD_eq_getD_getElem?, Array.getElem?_replicate]
    split <;> rfl
  refine any_ok hP hC hl hD hz hrun (by rw [k2]; exact h2) hQ ops.size _ γ a _ s ⟨by simp, fun i o _ hli => by rw [hgf] at hli; simp at hli⟩ ?_ hR' hG hE ?_
  · unfold unl
    rw [Array.toList_replicate, List.countP_replicate]
    rfl
  · by_cases hh : 0 < h
    · left
      refine ⟨⟨0, hh, hgf 0⟩, ?_⟩
      have := (hs_HI hD hz hrun 0 (by omega)).1
      have hp : (fun j => (Array.replicate ops.size false).getD j false) = fun j => decide (j < 0) := by funext j; rw [hgf j]; simp
      rw [hp]; exact this
    · right
      have h0 : h = 0 := by omega
      subst h0
      refine ⟨0, Nat.le_refl _, fun i hi => ⟨fun hx => by rw [hgf] at hx; simp at hx, fun hx => by omega⟩, ?_⟩
      rw [← k2] at h2
      exact h2

end
end Go.Ev

set_option linter.unusedSimpArgs false
set_option linter.unusedVariables false
namespace Go.Ev
variable {P : Program} {E : Env} {cf : CallF}

def AExit.to : AExit → Exit
  | .normal => .normal
  | .exit id => .exit id
  | .ret => .ret

/-- What is shown of a code. -/
def CodeOK (P : Program) (E : Env) (cf : CallF) (c : Code) (ev : St → Option (AExit × St)) : Prop :=
  ∀ (γ : Gh) (a : Act) (w : World) (s : St) (e : AExit) (s' : St) (Q : Exit → Act → World → Prop), ev s = some (e, s') → R P γ a w s → GlobOK E γ →
    (∀ γ' a' w', Ext γ w γ' w' → R P γ' a' w' s' → Q e.to a' w') → c.wp P Q a w

theorem rounds_ok {c : Code} {ev : St → Option (AExit × St)} (h : CodeOK P E cf c ev) : ∀ (m : Nat) (γ : Gh) (a : Act) (w : World) (s : St) (e : AExit) (s' : St) (Q : Exit → Act → World → Prop), rounds ev m s = some (e, s') → R P γ a w s → GlobOK E γ →
    (∀ γ' a' w', Ext γ w γ' w' → R P γ' a' w' s' → Q e.to a' w') → Code.rounds P c Q m a w
  | 0, _, _, _, _, _, _, _, hr, _, _, _ => by simp [rounds] at hr
  | m + 1, γ, a, w, s, e, s', Q, hr, hR, hG, hQ => by
    rw [rounds_succ]
    simp only [rounds] at hr
    cases hev : ev s with
    | none => rw [hev] at hr; simp at hr
    | some p =>
      obtain ⟨e1, s1⟩ := p
      rw [hev] at hr
      refine h γ a w s e1 s1 _ hev hR hG (fun γ' a' w' he hR' => ?_)
      cases e1 with
      | normal => exact rounds_ok h m γ' a' w' s1 e s' Q hr hR' (hG.mono he.F) (fun γ2 a2 w2 he2 hR2 => hQ γ2 a2 w2 (he.trans he2) hR2)
      | exit id =>
        simp only [Option.some.injEq, Prod.mk.injEq] at hr
        obtain ⟨rfl, rfl⟩ := hr
        exact hQ γ' a' w' he hR'
      | ret =>
        simp only [Option.some.injEq, Prod.mk.injEq] at hr
        obtain ⟨rfl, rfl⟩ := hr
        exact hQ γ' a' w' he hR'

theorem R.killed {γ : Gh} {a : Act} {w : World} {s : St} (hR : R P γ a w s) (ts : List Nat) : R P γ a w (s.kill ts) := by
  have key : ∀ (ts : List Nat) (l : List AV), l.length = s.tm.length → (∀ t, t < s.tm.length → RepA P γ w (.tmp t) (l.getD t (.sv .undef)) (a.tmps.getD t undef)) →
      (ts.foldl (fun l t => l.set t (.sv .undef)) l).length = s.tm.length ∧ ∀ t, t < s.tm.length → RepA P γ w (.tmp t) ((ts.foldl (fun l t => l.set t (.sv .undef)) l).getD t (.sv .undef)) (a.tmps.getD t undef) := by
    intro ts
    induction ts with
    | nil => intro l h1 h2; exact ⟨h1, h2⟩
    | cons x ts ih =>
      intro l h1 h2
      refine ih (l.set x (.sv .undef)) (by simpa using h1) (fun t ht => ?_)
      simp only [List.getD_eq_getElem?_getD, List.getElem?_set]
      by_cases e : x = t
      · subst e
        rw [if_pos rfl, if_pos (by omega)]
        exact .sv _ _ _ (.undef _)
      · rw [if_neg e]
        have := h2 t ht
        simpa [List.getD_eq_getElem?_getD] using this
  obtain ⟨h1, h2⟩ := key ts s.tm rfl hR.tm
  exact ⟨hR.bx, hR.sz.trans h1.symm, fun t ht => h2 t (by rw [← h1]; exact ht), by simp [St.kill], hR.dl, hR.df⟩

theorem CodeOK.kill {c : Code} {ev : St → Option (AExit × St)} (h : CodeOK P E cf c ev) (ts : List Nat) : CodeOK P E cf c (fun s => ev (s.kill ts)) :=
  fun γ a w s e s' Q hev hR hG hQ => h γ a w (s.kill ts) e s' Q hev (hR.killed ts) hG hQ

theorem CodeOK.withKill {c : Code} {ac : ACode} {n : Nat} (h : CodeOK P E cf c (evC E cf n ac)) (N m : Nat) : CodeOK P E cf c (evC E cf n (withKill N m ac)) := by
  unfold Ev.withKill
  split
  · exact h
  · have := h.kill (bitsOf N m)
    have he : (fun s => evC E cf n ac (s.kill (bitsOf N m))) = evC E cf n (.seq (.kill (bitsOf N m)) ac) := by funext s; rfl
    rw [← he]; exact this

theorem CodeOK.killAfter {c : Code} {ac : ACode} {n : Nat} (h : CodeOK P E cf c (evC E cf n ac)) (ts : List Nat) : CodeOK P E cf c (evC E cf n (.seq ac (.kill ts))) := by
  intro γ a w s e s' Q hev hR hG hQ
  simp only [evC] at hev
  cases h1 : evC E cf n ac s with
  | none => rw [h1] at hev; simp at hev
  | some p =>
    obtain ⟨e1, s1⟩ := p
    rw [h1] at hev
    cases e1 with
    | normal =>
      simp only [Option.some.injEq, Prod.mk.injEq] at hev
      obtain ⟨rfl, rfl⟩ := hev
      exact h γ a w s _ s1 Q h1 hR hG (fun γ' a' w' he hR' => hQ γ' a' w' he (hR'.killed ts))
    | exit id =>
      simp only [Option.some.injEq, Prod.mk.injEq] at hev
      obtain ⟨rfl, rfl⟩ := hev
      exact h γ a w s _ s1 Q h1 hR hG hQ
    | ret =>
      simp only [Option.some.injEq, Prod.mk.injEq] at hev
      obtain ⟨rfl, rfl⟩ := hev
      exact h γ a w s _ s1 Q h1 hR hG hQ

theorem code_ok (hm : P.follows .mixedOrders = true) (hP : PureOK P E) (hC : CfOK P E cf) (n : Nat) : ∀ (c : Code) (ac : ACode), cCode P c = some ac → ∀ (N rt out : Nat) (ex : List (Nat × Nat)), CodeOK P E cf c (evC E cf n (ann N rt ac out ex).1) := by
  intro c
  induction c with
  | skip =>
    intro ac hc N rt out ex γ a w s e s' Q hev hR hG hQ
    simp only [cCode, Option.some.injEq] at hc; subst hc
    simp only [ann, evC, Option.some.injEq, Prod.mk.injEq] at hev
    obtain ⟨rfl, rfl⟩ := hev
    exact wp_skip (hQ γ a w (Ext.refl _ _) hR)
  | label l =>
    intro ac hc N rt out ex γ a w s e s' Q hev hR hG hQ
    simp only [cCode, Option.some.injEq] at hc; subst hc
    simp only [ann, evC, Option.some.injEq, Prod.mk.injEq] at hev
    obtain ⟨rfl, rfl⟩ := hev
    exact wp_label (hQ γ a w (Ext.refl _ _) hR)
  | exit id =>
    intro ac hc N rt out ex γ a w s e s' Q hev hR hG hQ
    simp only [cCode, Option.some.injEq] at hc; subst hc
    simp only [ann, evC, Option.some.injEq, Prod.mk.injEq] at hev
    obtain ⟨rfl, rfl⟩ := hev
    exact wp_exit (hQ γ a w (Ext.refl _ _) hR)
  | ret =>
    intro ac hc N rt out ex γ a w s e s' Q hev hR hG hQ
    simp only [cCode, Option.some.injEq] at hc; subst hc
    simp only [ann, evC, Option.some.injEq, Prod.mk.injEq] at hev
    obtain ⟨rfl, rfl⟩ := hev
    exact wp_ret (hQ γ a w (Ext.refl _ _) hR)
  | region id ops draw =>
    intro ac hc N rt out ex
    simp only [cCode] at hc
    split at hc <;> try (simp at hc; done)
    rename_i l hl
    have hreg : ∀ h, ac = .region h l → CodeOK P E cf (.region id ops draw) (evC E cf n (.region h l)) → CodeOK P E cf (.region id ops draw) (evC E cf n (ann N rt ac out ex).1) := by
      intro h hac hok
      subst hac
      simp only [ann]
      split
      · exact hok
      · exact hok.killAfter _
    split at hc
    · rename_i hdr
      split at hc
      · rename_i h hh
        simp only [Option.some.injEq] at hc; subst hc
        refine hreg h rfl (fun γ a w s e s' Q hev hR hG hQ => ?_)
        have hR0 := hR.noLz
        simp only [evC] at hev
        split at hev <;> try (simp at hev; done)
        rename_i sH h1
        split at hev <;> simp only [Option.some.injEq, Prod.mk.injEq, reduceCtorEq] at hev
        rename_i sF h2
        obtain ⟨rfl, rfl⟩ := hev
        rw [hdr]
        exact region_draw hm hP hC hR0 hG rfl hl hh h1 h2 hQ
      · simp only [Option.some.injEq] at hc; subst hc
        intro γ a w s e s' Q hev; simp [ann, evC] at hev
    · rename_i hdr
      simp only [Option.some.injEq] at hc; subst hc
      refine hreg 0 rfl (fun γ a w s e s' Q hev hR hG hQ => ?_)
      have hR0 := hR.noLz
      simp only [evC, List.take_zero, runOps, List.drop_zero] at hev
      split at hev <;> simp only [Option.some.injEq, Prod.mk.injEq, reduceCtorEq] at hev
      rename_i sF h2
      obtain ⟨rfl, rfl⟩ := hev
      have hd : draw = false := by simpa using hdr
      rw [hd]
      exact region_seq hP hC hR0 hG hl h2 hQ
  | seq x y ihx ihy =>
    intro ac hc N rt out ex
    simp only [cCode] at hc
    split at hc <;> simp only [Option.some.injEq, reduceCtorEq] at hc
    rename_i ax ay hx hy
    subst hc
    intro γ a w s e s' Q hev hR hG hQ
    simp only [ann, evC] at hev
    have ihy' := ihy ay hy N rt out ex
    have ihx' := ihx ax hx N rt (ann N rt ay out ex).2 ex
    refine wp_seq ?_
    cases h1 : evC E cf n (ann N rt ax (ann N rt ay out ex).2 ex).1 s with
    | none => rw [h1] at hev; simp at hev
    | some p =>
      obtain ⟨e1, s1⟩ := p
      rw [h1] at hev
      refine ihx' γ a w s e1 s1 _ h1 hR hG (fun γ' a' w' he hR' => ?_)
      cases e1 with
      | normal => exact ihy' γ' a' w' s1 e s' Q hev hR' (hG.mono he.F) (fun γ2 a2 w2 he2 hR2 => hQ γ2 a2 w2 (he.trans he2) hR2)
      | exit id =>
        simp only [Option.some.injEq, Prod.mk.injEq] at hev
        obtain ⟨rfl, rfl⟩ := hev
        exact hQ γ' a' w' he hR'
      | ret =>
        simp only [Option.some.injEq, Prod.mk.injEq] at hev
        obtain ⟨rfl, rfl⟩ := hev
        exact hQ γ' a' w' he hR'
  | cond c x y ihx ihy =>
    intro ac hc N rt out ex
    simp only [cCode] at hc
    split at hc <;> simp only [Option.some.injEq, reduceCtorEq] at hc
    rename_i ac' ax ay hcc hx hy
    subst hc
    intro γ a w s e s' Q hev hR hG hQ
    simp only [ann, evC] at hev
    split at hev <;> try (simp at hev; done)
    rename_i b hb
    have hv := (ev_rep hR hG hcc).bool hb
    refine wp_cond hv ?_
    cases b with
    | true => simp only [if_true] at hev ⊢; exact (ihx ax hx N rt out ex).withKill _ _ γ a w s e s' Q hev hR hG hQ
    | false => simp only [Bool.false_eq_true, if_false] at hev ⊢; exact (ihy ay hy N rt out ex).withKill _ _ γ a w s e s' Q hev hR hG hQ
  | block id b ih =>
    intro ac hc N rt out ex
    simp only [cCode, Option.map_eq_some_iff] at hc
    obtain ⟨ab, hb, rfl⟩ := hc
    intro γ a w s e s' Q hev hR hG hQ
    simp only [ann, evC] at hev
    have ih' := ih ab hb N rt out ((id, out) :: ex)
    refine wp_block ?_
    cases h1 : evC E cf n (ann N rt ab out ((id, out) :: ex)).1 s with
    | none => rw [h1] at hev; simp at hev
    | some p =>
      obtain ⟨e1, s1⟩ := p
      rw [h1] at hev
      refine ih' γ a w s e1 s1 _ h1 hR hG (fun γ' a' w' he hR' => ?_)
      cases e1 with
      | normal =>
        simp only [Option.some.injEq, Prod.mk.injEq] at hev
        obtain ⟨rfl, rfl⟩ := hev
        exact hQ γ' a' w' he hR'
      | exit j =>
        simp only at hev
        show Exit.inBlock id Q (.exit j) a' w'
        unfold Exit.inBlock
        split at hev
        · rename_i hj
          simp only [Option.some.injEq, Prod.mk.injEq] at hev
          obtain ⟨rfl, rfl⟩ := hev
          simp only [hj, if_true]
          exact hQ γ' a' w' he hR'
        · rename_i hj
          simp only [Option.some.injEq, Prod.mk.injEq] at hev
          obtain ⟨rfl, rfl⟩ := hev
          simp only [hj, if_false]
          exact hQ γ' a' w' he hR'
      | ret =>
        simp only [Option.some.injEq, Prod.mk.injEq] at hev
        obtain ⟨rfl, rfl⟩ := hev
        exact hQ γ' a' w' he hR'
  | loop b ih =>
    intro ac hc N rt out ex
    simp only [cCode, Option.map_eq_some_iff] at hc
    obtain ⟨ab, hb, rfl⟩ := hc
    intro γ a w s e s' Q hev hR hG hQ
    simp only [ann, evC] at hev
    exact wp_loop_rounds n (rounds_ok (ih ab hb N rt _ ex) n γ a w s e s' Q hev hR hG hQ)
  | scope b ih =>
    intro ac hc N rt out ex
    simp only [cCode, Option.map_eq_some_iff] at hc
    obtain ⟨ab, hb, rfl⟩ := hc
    intro γ a w s e s' Q hev hR hG hQ
    simp only [ann, evC] at hev
    refine wp_scope_straight (ih ab hb N rt out ex γ a w s e s' _ hev hR hG (fun γ' a' w' he hR' => ?_))
    cases e <;> exact hQ γ' a' w' he hR'
  | _ =>
    intro ac hc N rt out ex γ a w s e s' Q hev
    simp only [cCode, Option.some.injEq] at hc
    subst hc
    simp [ann, evC] at hev

end Go.Ev

set_option linter.unusedSimpArgs false
set_option linter.unusedVariables false
namespace Go.Ev
variable {P : Program} {E : Env} {cf : CallF} {γ : Gh} {a : Act} {w : World} {s : St}

/-- The table of codes is the program's. -/
def CodeT (P : Program) (E : Env) : Prop := ∀ f fn, E.code f = some fn → ∃ func : Func, P.funcs[f]? = some func ∧ (func.name == "runtime.NumGoroutine") = false ∧ cFn P func = some fn

/-- A result. -/
def ValOK (γ : Gh) (a : Act) (s : St) (v : AV) (u : Value) : Prop :=
  (∃ x, v = .sv x ∧ RepS γ.F x u) ∨ ∃ t, t < s.tm.length ∧ v = s.rd t ∧ u = a.tmps.getD t undef

theorem res_ok (hR : R P γ a w s) {r : ResultVar} {r' : ARes} (hr : cRes P r = some r') {v : AV} (hv : resOf s r' = some v) :
    ∃ u, ((match r with | .tmp t => pure (a.tmps.getD t undef) | .cell ad t => do loadVar t (← asAddr (a.tmps.getD ad undef)) : Sem Value)).run P w = .ok u w ∧ ValOK γ a s v u := by
  cases r with
  | tmp t =>
    simp only [cRes, Option.some.injEq] at hr; subst hr
    simp only [resOf, Option.some.injEq] at hv; subst hv
    refine ⟨_, rfl, ?_⟩
    by_cases ht : t < s.tm.length
    · exact .inr ⟨t, ht, rfl, rfl⟩
    · exact .inl ⟨.undef, rd_big (Nat.le_of_not_lt ht), .undef _⟩
  | cell ad t =>
    simp only [cRes, Option.map_eq_some_iff] at hr
    obtain ⟨n, hn, rfl⟩ := hr
    simp only [resOf] at hv
    split at hv <;> try (simp at hv; done)
    rename_i cs hcs
    split at hv <;> simp only [Option.some.injEq, reduceCtorEq] at hv
    rename_i x hx
    subst hv
    have hadl : ad < s.tm.length := by
      refine Decidable.byContradiction fun hn => ?_
      rw [rd_big (Nat.le_of_not_lt hn)] at hcs
      simp [cellsAt] at hcs
    obtain ⟨b, off, vs, hu, hc⟩ := cellsAt_rep hR.bx (hR.tm ad hadl) hcs
    obtain ⟨u, k1, k2⟩ := run_loadVar (P := P) (w := w) hn hc hx
    refine ⟨u, ?_, .inl ⟨x, rfl, k2⟩⟩
    simp only [hu]
    simp [asAddr, k1]

theorem mapM_ok {α : Type} {f : α → Sem Value} : ∀ {l : List α} {us : List Value}, us.length = l.length → (∀ (j : Nat) (x : α) (u : Value), l[j]? = some x → us[j]? = some u → (f x).run P w = .ok u w) → (l.mapM f).run P w = .ok us w
  | [], us, hl, _ => by
    have : us = [] := List.eq_nil_of_length_eq_zero (by simpa using hl)
    subst this; rfl
  | x :: l, us, hl, h => by
    cases us with
    | nil => simp at hl
    | cons u us =>
      rw [List.mapM_cons]
      have h1 := h 0 x u rfl rfl
      have h2 := mapM_ok (l := l) (us := us) (by simpa using hl) (fun j x u hx hu => h (j + 1) x u (by simpa using hx) (by simpa using hu))
      simp only [Sem.run_bind, h1, Result.andThen_ok, h2]
      rfl

theorem results_ok (hR : R P γ a w s) {fn : Func} {rs : List ARes} (hrs : allSome (fn.results.toList.map (cRes P)) = some rs) {vals : List AV} (hv : mapOpt (resOf s) rs = some vals) :
    ∃ us : List Value, us.length = vals.length ∧ (results fn a.tmps).run P w = .ok (if h : us.length = 1 then us[0] else .tuple us.toArray) w ∧ ∀ (j : Nat) (v : AV) (u : Value), vals[j]? = some v → us[j]? = some u → ValOK γ a s v u := by
  obtain ⟨h1, h2⟩ := allSome_spec hrs
  obtain ⟨h3, h4⟩ := mapOpt_spec hv
  have hl : rs.length = fn.results.size := by simpa using h1
  have hex : ∀ j, j < fn.results.size → ∃ u v, vals[j]? = some v ∧ ((match fn.results[j]! with | .tmp t => pure (a.tmps.getD t undef) | .cell ad t => do loadVar t (← asAddr (a.tmps.getD ad undef)) : Sem Value)).run P w = .ok u w ∧ ValOK γ a s v u := by
    intro j hj
    have h5 := h2 j rs[j] (by simp [hl, hj])
    rw [List.getElem?_map, Array.getElem?_toList, Array.getElem?_eq_getElem hj] at h5
    simp only [Option.map_some, Option.some.injEq] at h5
    obtain ⟨v, hv1, hv2⟩ := h4 j rs[j] (by simp [hl, hj])
    obtain ⟨u, k1, k2⟩ := res_ok hR h5 hv2
    refine ⟨u, v, hv1, ?_, k2⟩
    rw [getElem!_pos fn.results j hj]
    exact k1
  let ug : Nat → Value := fun j => if hj : j < fn.results.size then Classical.choose (hex j hj) else undef
  have hug : ∀ j (hj : j < fn.results.size), ∃ v, vals[j]? = some v ∧ ((match fn.results[j]! with | .tmp t => pure (a.tmps.getD t undef) | .cell ad t => do loadVar t (← asAddr (a.tmps.getD ad undef)) : Sem Value)).run P w = .ok (ug j) w ∧ ValOK γ a s v (ug j) := by
    intro j hj
    simp only [ug, dif_pos hj]
    exact Classical.choose_spec (hex j hj)
  let us : List Value := (List.range fn.results.size).map ug
  have hul : us.length = fn.results.size := by simp [us]
  have hug2 : ∀ (j : Nat) (u : Value), us[j]? = some u → j < fn.results.size ∧ u = ug j := by
    intro j u hu
    have hj : j < fn.results.size := by rw [← hul]; exact (List.getElem?_eq_some_iff.1 hu).1
    simp only [us, List.getElem?_map, List.getElem?_range hj, Option.map_some, Option.some.injEq] at hu
    exact ⟨hj, hu.symm⟩
  refine ⟨us, by rw [hul, h3, hl], ?_, fun j v u hv' hu => ?_⟩
  · unfold results
    have hm := mapM_ok (P := P) (w := w) (f := fun r : ResultVar => (match r with | .tmp t => pure (a.tmps.getD t undef) | .cell ad t => do loadVar t (← asAddr (a.tmps.getD ad undef)) : Sem Value)) (l := fn.results.toList) (us := us) (by simpa using hul) (fun j x u hx hu => by
      obtain ⟨hj, rfl⟩ := hug2 j u hu
      obtain ⟨v, _, k2, _⟩ := hug j hj
      rw [getElem!_pos fn.results j hj] at k2
      have : x = fn.results[j] := by
        rw [Array.getElem?_toList, Array.getElem?_eq_getElem hj] at hx
        exact (Option.some.inj hx).symm
      rw [this]; exact k2)
    have ha : fn.results.mapM (fun r : ResultVar => (match r with | .tmp t => pure (a.tmps.getD t undef) | .cell ad t => do loadVar t (← asAddr (a.tmps.getD ad undef)) : Sem Value)) = List.toArray <$> fn.results.toList.mapM (fun r : ResultVar => (match r with | .tmp t => pure (a.tmps.getD t undef) | .cell ad t => do loadVar t (← asAddr (a.tmps.getD ad undef)) : Sem Value)) := by
      rw [Array.mapM_eq_mapM_toList]
    have hm2 : (fn.results.mapM (fun r : ResultVar => (match r with | .tmp t => pure (a.tmps.getD t undef) | .cell ad t => do loadVar t (← asAddr (a.tmps.getD ad undef)) : Sem Value))).run P w = .ok us.toArray w := by
      rw [ha, map_eq_pure_bind]
      simp only [Sem.run_bind, hm, Result.andThen_ok, Sem.run_pure]
    simp only [Sem.run_bind]
    refine (congrArg (fun r => Result.andThen r _) hm2).trans ?_
    simp only [Result.andThen_ok, Sem.run_pure, List.size_toArray, List.getElem_toArray]
  · obtain ⟨hj, rfl⟩ := hug2 j u hu
    obtain ⟨v', k1, _, k3⟩ := hug j hj
    rw [hv'] at k1
    obtain rfl := Option.some.inj k1
    exact k3

theorem sinkL_ok : ∀ (vals : List AV) (us : List Value) (γ : Gh) (s : St) (xs : List SV) (s' : St), us.length = vals.length → sinkL s vals = some (xs, s') → R P γ a w s → (∀ (j : Nat) (v : AV) (u : Value), vals[j]? = some v → us[j]? = some u → ValOK γ a s v u) →
    ∃ γ', R P γ' a w s' ∧ Ext γ w γ' w ∧ xs.length = us.length ∧ ∀ (j : Nat) (x : SV) (u : Value), xs[j]? = some x → us[j]? = some u → RepS γ'.F x u
  | [], us, γ, s, xs, s', hl, h, hR, _ => by
    simp only [sinkL, Option.some.injEq, Prod.mk.injEq] at h
    obtain ⟨rfl, rfl⟩ := h
    exact ⟨γ, hR, Ext.refl _ _, by simpa using hl.symm, by simp⟩
  | v :: vals, us, γ, s, xs, s', hl, h, hR, hv => by
    cases us with
    | nil => simp at hl
    | cons u us =>
      simp only [sinkL] at h
      split at h <;> try (simp at h; done)
      rename_i x s2 hx
      split at h <;> simp only [Option.some.injEq, Prod.mk.injEq, reduceCtorEq] at h
      rename_i xs2 s3 hxs
      obtain ⟨rfl, rfl⟩ := h
      have h1 : ∃ ℓ, RepA P γ w ℓ v u := by
        rcases hv 0 v u rfl rfl with ⟨y, rfl, hr⟩ | ⟨t, ht, rfl, rfl⟩
        · exact ⟨.ret, .sv _ _ _ hr⟩
        · exact ⟨.tmp t, hR.tm t ht⟩
      obtain ⟨ℓ, hrep⟩ := h1
      obtain ⟨γ1, k1, k2, k3, k4, k5, k6, _⟩ := sink_ok hR hrep hx
      obtain ⟨γ2, g1, g2, g3, g4⟩ := sinkL_ok vals us γ1 s2 xs2 s3 (by simpa using hl) hxs k1 (fun j v' u' hv' hu' => by
        rcases hv (j + 1) v' u' (by simpa using hv') (by simpa using hu') with ⟨y, rfl, hr⟩ | ⟨t, ht, rfl, rfl⟩
        · exact .inl ⟨y, rfl, hr.mono k2.F⟩
        · exact .inr ⟨t, by rw [k5]; exact ht, (rd_of_tm k5 t).symm, rfl⟩)
      refine ⟨γ2, g1, k2.trans g2, by simp [g3], fun j y u' hy hu' => ?_⟩
      cases j with
      | zero =>
        simp only [List.getElem?_cons_zero, Option.some.injEq] at hy hu'
        subst hy; subst hu'
        exact k3.mono g2.F
      | succ j => exact g4 j y u' (by simpa using hy) (by simpa using hu')

theorem leaves_ok (hQ : QuietOK P E) {fn : Func} {tmps : Array Value} {Rr : Ending → World → Prop} {v : Value} (hr : (results fn tmps).run P w = .ok v w) (hRr : Rr (.returned v) w) :
    ∀ (ds : List Deferred) (ks : List Nat), ks.length = ds.length → (∀ (i d : Nat) (c : Deferred), ks[i]? = some d → ds[i]? = some c → RepD d c) → ks.all E.quiet = true → Leaves P fn tmps Rr ds .returning w
  | [], _, _, _, _ => ⟨v, hr, hRr⟩
  | c :: ds, ks, hl, hrep, hall => by
    cases ks with
    | nil => simp at hl
    | cons k ks =>
      simp only [List.all_cons, Bool.and_eq_true] at hall
      obtain ⟨cap, hc⟩ := hrep 0 k c rfl rfl
      obtain ⟨h1, h2⟩ := hQ k hall.1 (c.args ++ cap) w
      refine ⟨by simp, .func k, cap, k, c.args ++ cap, hc, ?_, h2.mono ?_⟩
      · rw [hc]; simp only [invoke]; exact h1
      · rintro e u' w' ⟨⟨v', rfl⟩, hu', hw'⟩
        rw [hu', hw']
        exact leaves_ok hQ hr hRr ds ks (by simpa using hl) (fun i d c hd hc => hrep (i + 1) d c (by simpa using hd) (by simpa using hc)) hall.2

/-- A function's call, by its own code. -/
theorem fn_ok (hm : P.follows .mixedOrders = true) (hT : CodeT P E) (hQ : QuietOK P E) (hP : PureOK P E) (hC : CfOK P E cf) {n : Nat} {f : FuncId} {fn : AFn} (hf : E.code f = some fn) {args : List AV} {bx : List Box} {e : AExit} (he : e = .normal ∨ e = .ret) {s1 : St} (hev : evC E cf n fn.body (enter fn args bx) = some (e, s1))
    {v : AV} {s' : St} (hend : endOf E fn s1 = some (v, s')) (hG : GlobOK E γ) (hb : BoxesOK P γ w bx) {us : Array Value} (hs : us.size = args.length) (hr : ∀ (j : Nat) (x : AV), args[j]? = some x → x.isOwn = false ∧ RepA P γ w .ret x (us.getD j undef)) :
    CallOK P f us w fun u w' => ∃ γ', BoxesOK P γ' w' s'.bx ∧ Ext γ w γ' w' ∧ RepA P γ' w' .ret v u ∧ (v.isOwn = false → ∃ a', R P γ' a' w' s') := by
  obtain ⟨func, hfun, hname, hcf⟩ := hT f fn hf
  unfold cFn at hcf
  split at hcf <;> try (simp at hcf; done)
  rename_i c hbody
  split at hcf <;> simp only [Option.some.injEq, reduceCtorEq] at hcf
  rename_i ab rs hab hrs
  subst hcf
  have h1 : func.name ≠ "runtime.NumGoroutine" := by simpa using hname
  refine .inr ⟨f, us, by simp [callFunc, hfun, h1, hbody], ?_⟩
  refine calls_of_wp_defers hfun hbody ?_
  have hR : R P γ { tmps := us ++ Array.replicate (func.ntmps - us.size) undef, defers := [] } w (enter { ntmps := func.ntmps, results := rs, body := (ann func.ntmps (resMask rs) ab (resMask rs) []).1 } args bx) := by
    refine ⟨hb, by simp [enter, hs], fun t ht => ?_, by simp [enter], rfl, by simp [enter]⟩
    simp only [enter, List.length_append, List.length_replicate] at ht
    by_cases htl : t < args.length
    · obtain ⟨k1, k2⟩ := hr t args[t] (by simp [htl])
      have h2 : (enter { ntmps := func.ntmps, results := rs, body := (ann func.ntmps (resMask rs) ab (resMask rs) []).1 } args bx).rd t = args[t] := by
        simp only [enter, St.rd, List.getD_eq_getElem?_getD]
        rw [List.getElem?_append_left htl]; simp [htl]
      have h3 : (us ++ Array.replicate (func.ntmps - us.size) undef).getD t undef = us.getD t undef := by
        simp only [Array.getD_eq_getD_getElem?]
        rw [Array.getElem?_append_left (by omega)]
      rw [h2, h3]
      exact k2.keepN k1 (fun _ _ _ h => h) (fun _ _ h => h)
    · have h2 : (enter { ntmps := func.ntmps, results := rs, body := (ann func.ntmps (resMask rs) ab (resMask rs) []).1 } args bx).rd t = .sv .undef := by
        simp only [enter, St.rd, List.getD_eq_getElem?_getD]
        rw [List.getElem?_append_right (by omega), List.getElem?_replicate]
        split <;> rfl
      rw [h2]
      exact .sv _ _ _ (.undef _)
  refine code_ok hm hP hC n c ab hab _ _ _ _ γ _ w _ e s1 _ hev hR hG (fun γ1 a1 w1 he1 hR1 => ?_)
  unfold endOf at hend
  split at hend <;> try (simp at hend; done)
  rename_i hquiet
  have key : ∃ u, (results func a1.tmps).run P w1 = .ok u w1 ∧ ∃ γ', BoxesOK P γ' w1 s'.bx ∧ Ext γ w γ' w1 ∧ RepA P γ' w1 .ret v u ∧ (v.isOwn = false → ∃ a', R P γ' a' w1 s') := by
    split at hend
    · rename_i v0 hvals
      simp only [Option.some.injEq, Prod.mk.injEq] at hend
      obtain ⟨rfl, rfl⟩ := hend
      obtain ⟨ul, k1, k2, k3⟩ := results_ok hR1 hrs hvals
      simp only [List.length_singleton] at k1
      rw [dif_pos k1] at k2
      refine ⟨_, k2, ?_⟩
      rcases k3 0 v0 ul[0] rfl (by simp) with ⟨x, rfl, hx⟩ | ⟨t, ht, hv0, hu⟩
      · exact ⟨γ1, hR1.bx, he1, .sv _ _ _ hx, fun _ => ⟨a1, hR1⟩⟩
      · -- the value leaves its temporary
        have hv := hR1.tm t ht
        rw [← hv0, ← hu] at hv
        cases hown : v0.isOwn with
        | false => exact ⟨γ1, hR1.bx, he1, hv.keepN hown (fun _ _ _ h => h) (fun _ _ h => h), fun _ => ⟨a1, hR1⟩⟩
        | true => exact ⟨γ1.mv (.tmp t) .ret, hR1.bx.mv (by simp), he1.trans (Gh.mv_ext _ _ _ _), hv.mv_same, by simp⟩
    · rename_i vals hne hvals
      split at hend <;> simp only [Option.some.injEq, Prod.mk.injEq, reduceCtorEq] at hend
      rename_i xs s2 hsink
      obtain ⟨rfl, rfl⟩ := hend
      obtain ⟨ul, k1, k2, k3⟩ := results_ok hR1 hrs hvals
      have hn1 : ul.length ≠ 1 := by
        intro h1
        rw [k1] at h1
        match vals, h1 with
        | [v0], _ => exact hne v0 rfl
      rw [dif_neg hn1] at k2
      obtain ⟨γ2, g1, g2, g3, g4⟩ := sinkL_ok vals ul γ1 s1 xs s2 k1 hsink hR1 k3
      refine ⟨_, k2, γ2, g1.bx, he1.trans g2, .sv _ _ _ (.tup _ _ (by simp [g3]) (fun j x hx => ?_)), fun _ => ⟨a1, g1⟩⟩
      have hj : j < ul.length := by rw [← g3]; exact (List.getElem?_eq_some_iff.1 hx).1
      have := g4 j x ul[j] hx (by simp [hj])
      simpa [Array.getD_eq_getD_getElem?, hj] using this
    · simp at hend
  obtain ⟨u, hru, hpost⟩ := key
  have hl : Leaves P func a1.tmps (fun e w' => ∃ v_1, e = .returned v_1 ∧ ∃ γ', BoxesOK P γ' w' s'.bx ∧ Ext γ w γ' w' ∧ RepA P γ' w' .ret v v_1 ∧ (v.isOwn = false → ∃ a', R P γ' a' w' s')) a1.defers .returning w1 :=
    leaves_ok hQ hru ⟨u, rfl, hpost⟩ a1.defers s1.df hR1.dl hR1.df hquiet
  rcases he with rfl | rfl <;> exact hl

/-- A function in its caller's boxes. -/
theorem evF_ok (hm : P.follows .mixedOrders = true) (hT : CodeT P E) (hQ : QuietOK P E) (hP : PureOK P E) : ∀ n, CfOK P E (evF E n)
  | 0 => fun f args bx r bx' h => by simp [evF] at h
  | n + 1 => fun f args bx r bx' h γ w us hG hb hs hr => by
    simp only [evF] at h
    split at h <;> try (simp at h; done)
    rename_i fn hf
    have hgo : ∀ (e : AExit) (s1 : St), (e = .normal ∨ e = .ret) → evC E (evF E n) n fn.body (enter fn args bx) = some (e, s1) → (match endOf E fn s1 with | some (v, s') => some (v, s'.bx) | none => none) = some (r, bx') →
        CallOK P f us w fun v w' => ∃ γ', BoxesOK P γ' w' bx' ∧ Ext γ w γ' w' ∧ RepA P γ' w' .ret r v := by
      intro e s1 he hev hh
      split at hh <;> simp only [Option.some.injEq, Prod.mk.injEq, reduceCtorEq] at hh
      rename_i v s' hend
      obtain ⟨rfl, rfl⟩ := hh
      exact (fn_ok hm hT hQ hP (evF_ok hm hT hQ hP n) hf he hev hend hG hb hs hr).mono fun u w' ⟨γ', k1, k2, k3, _⟩ => ⟨γ', k1, k2, k3⟩
    split at h
    · rename_i s1 hev; exact hgo _ s1 (.inl rfl) hev h
    · rename_i s1 hev; exact hgo _ s1 (.inr rfl) hev h
    · simp at h

/-- A function as one that only computes. -/
theorem evP_ok (hm : P.follows .mixedOrders = true) (hT : CodeT P E) (hQ : QuietOK P E) (hP : PureOK P E) (n : Nat) (f : FuncId) : PureFn P E f (evP E n f) := by
  intro vs r h F0 w us hG hF hs hr
  let γ : Gh := ⟨F0, [], fun _ => none⟩
  have hb : BoxesOK P γ w [] := ⟨rfl, by simp, by simp [γ], hF, by simp [γ]⟩
  unfold evP at h
  split at h <;> try (simp at h; done)
  rename_i fn hf
  have hgo : ∀ (e : AExit) (s1 : St), (e = .normal ∨ e = .ret) → evC E (evF E n) n fn.body (enter fn (vs.map .sv) []) = some (e, s1) → (match endOf E fn s1 with
      | some (v, s') => match v with
        | .own e xs => some (.own e xs)
        | .sv x => some (.sv x)
        | v => match sink s' v with
          | some (x, _) => some (.sv x)
          | none => none
      | none => none) = some r → CallOK P f us w fun v w' => ∃ γ', Fresh γ w γ' w' ∧ RepA P γ' w' .ret r v := by
    intro e s1 he hev hh
    split at hh <;> try (simp at hh; done)
    rename_i v s' hend
    refine (fn_ok (γ := γ) hm hT hQ hP (evF_ok hm hT hQ hP n) hf he hev hend hG hb (by simp [hs]) (fun j x hx => ?_)).mono ?_
    · rw [List.getElem?_map] at hx
      obtain ⟨y, hy, rfl⟩ := Option.map_eq_some_iff.1 hx
      exact ⟨rfl, .sv _ _ _ (hr j y hy)⟩
    · rintro u w' ⟨γ1, hb1, he1, hrep, hRx⟩
      have fin : ∀ (γ2 : Gh), Ext γ w γ2 w' → (∀ b o v, γ2.F b o v → w'.cell? ⟨b, o, none⟩ = some v) → (∀ b ℓ, γ2.ow b = some ℓ → b < w'.heap.size) → RepA P γ2 w' .ret r u → (∀ i off, r ≠ .ptr i off) → (∀ i n k, r ≠ .mrow i n k) → (∀ f a b, r ≠ .clo f a b) → ∃ γ', Fresh γ w γ' w' ∧ RepA P γ' w' .ret r u := by
        intro γ2 he2 hF2 how hrep2 h1 h2 h3
        let γ' : Gh := { F := γ2.F, β := [], ow := fun b => if γ2.ow b = some .ret then some .ret else none }
        refine ⟨γ', ⟨he2.os, he2.tape, he2.output, he2.size, fun b hb => he2.blk b ⟨hb, by simp [γ], rfl⟩, he2.F, fun b o v hb h => he2.Fnew b o v ⟨hb, by simp [γ], rfl⟩ h, hF2, rfl, fun b hb => ?_, fun b ℓ hl ho => ?_⟩, ?_⟩
        · simp only [γ', γ, he2.own b ⟨hb, by simp [γ], rfl⟩]; rfl
        · simp only [γ'] at ho
          split at ho <;> simp only [Option.some.injEq, reduceCtorEq] at ho
          rename_i hob
          exact ⟨how b _ hob, ho.symm⟩
        · cases r with
          | sv x => exact .sv _ _ _ hrep2.sv_inv
          | own e xs =>
            cases hrep2 with
            | own _ _ _ hO => exact .own _ _ _ _ (RepO.keep (γ' := γ') hO (fun _ _ _ h => h) (fun g _ hg => ⟨rfl, fun _ _ h => h, by simp [γ', hg]⟩))
          | ptr i off => exact absurd rfl (h1 i off)
          | mrow i n k => exact absurd rfl (h2 i n k)
          | clo f a b => exact absurd rfl (h3 f a b)
      have hsink : ∀ x s2, v.isOwn = false → sink s' v = some (x, s2) → r = .sv x → ∃ γ', Fresh γ w γ' w' ∧ RepA P γ' w' .ret r u := by
        intro x s2 hown hx hrx
        subst hrx
        obtain ⟨a', hR'⟩ := hRx hown
        obtain ⟨γ2, k1, k2, k3, _⟩ := sink_ok hR' hrep hx
        exact fin γ2 (he1.trans k2) k1.bx.Fw (fun b ℓ h => (k1.bx.ow b ℓ h).1) (.sv _ _ _ k3) (by simp) (by simp) (by simp)
      cases v with
      | own e xs =>
        simp only [Option.some.injEq] at hh
        subst hh
        exact fin γ1 he1 hb1.Fw (fun b ℓ h => (hb1.ow b ℓ h).1) hrep (by simp) (by simp) (by simp)
      | sv x =>
        simp only [Option.some.injEq] at hh
        subst hh
        exact fin γ1 he1 hb1.Fw (fun b ℓ h => (hb1.ow b ℓ h).1) hrep (by simp) (by simp) (by simp)
      | _ =>
        simp only at hh
        split at hh <;> simp only [Option.some.injEq, reduceCtorEq] at hh
        rename_i x s2 hx
        exact hsink x s2 rfl hx hh.symm
  split at h
  · rename_i s1 hev; exact hgo _ s1 (.inl rfl) hev h
  · rename_i s1 hev; exact hgo _ s1 (.inr rfl) hev h
  · simp at h

/-- A new entry for the table of what only computes. -/
theorem PureFn.of_ev {f : FuncId} {F : List SV → Option AV} (hm : P.follows .mixedOrders = true) (hT : CodeT P E) (hQ : QuietOK P E) (hP : PureOK P E) (h : ∀ vs r, F vs = some r → ∃ n, evP E n f vs = some r) : PureFn P E f F := by
  intro vs r hF
  obtain ⟨n, hn⟩ := h vs r hF
  exact evP_ok hm hT hQ hP n f vs r hn

end Go.Ev

set_option linter.unusedSimpArgs false
set_option linter.unusedVariables false
namespace Go.Ev
variable {P : Program} {E : Env}

def codeOf (P : Program) (f : Nat) : Option AFn := (P.funcs[f]? : Option Func).bind fun fn => if fn.name == "runtime.NumGoroutine" then none else cFn P fn

theorem codeT_of (h : ∀ f fn, E.code f = some fn → codeOf P f = some fn) : CodeT P E := by
  intro f fn hf
  have := h f fn hf
  unfold codeOf at this
  cases hg : (P.funcs[f]? : Option Func) with
  | none => rw [hg] at this; simp at this
  | some func =>
    rw [hg] at this
    simp only [Option.bind_some] at this
    split at this
    · simp at this
    · rename_i hn
      exact ⟨func, rfl, by simpa using hn, this⟩

def Env.add (E : Env) (f : Nat) (F : List SV → Option AV) : Env := { E with pure := fun g => if g = f then some F else E.pure g }

theorem PureFn.glob {E' : Env} {f : Nat} {F : List SV → Option AV} (h : PureFn P E f F) (hg : E'.glob = E.glob) : PureFn P E' f F := by
  intro vs r hF F0 w us hG
  exact h vs r hF F0 w us (fun g => by have := hG g; rw [hg] at this; exact this)

theorem PureOK.add (h : PureOK P E) {f : Nat} {F : List SV → Option AV} (hF : PureFn P E f F) : PureOK P (E.add f F) := by
  refine ⟨fun g G hg => ?_, fun g k hg => h.2 g k hg⟩
  simp only [Env.add] at hg
  split at hg
  · rename_i e; subst e
    simp only [Option.some.injEq] at hg
    subst hg
    exact hF.glob rfl
  · exact (h.1 g G hg).glob rfl

theorem PureFn.mono {f : Nat} {F F' : List SV → Option AV} (h : PureFn P E f F) (hle : ∀ vs r, F' vs = some r → F vs = some r) : PureFn P E f F' :=
  fun vs r hr => h vs r (hle vs r hr)

/-- A slice that a function answers, whoever owns it. -/
theorem RepA.weak {γ : Gh} {w : World} {ℓ : Loc} {r : AV} {xs : List SV} {v : Value} (h : RepA P γ w ℓ r v) (hr : r.elems = some xs) : RepA P γ w ℓ (.sv (.sl xs)) v := .sv _ _ _ (h.elems hr)

/-- A result that says less. -/
def AV.weak (r' r : AV) : Prop := r' = r ∨ ∃ xs, r = .sv (.sl xs) ∧ r'.elems = some xs

theorem PureFn.of {f : FuncId} {F : List SV → Option AV} (hm : P.follows .mixedOrders = true) (hT : CodeT P E) (hQ : QuietOK P E) (hP : PureOK P E) (h : ∀ vs r, F vs = some r → ∃ n r', evP E n f vs = some r' ∧ r'.weak r) : PureFn P E f F := by
  intro vs r hF F0 w us hG hFw hs hr
  obtain ⟨n, r', hn, hw⟩ := h vs r hF
  refine (evP_ok hm hT hQ hP n f vs r' hn F0 w us hG hFw hs hr).mono ?_
  rintro v w' ⟨γ', h1, h2⟩
  rcases hw with rfl | ⟨xs, rfl, hx⟩
  · exact ⟨γ', h1, h2⟩
  · exact ⟨γ', h1, h2.weak hx⟩

/-- A function that calls itself: at arguments of a smaller size. -/
theorem PureFn.of_rec {f : FuncId} {F : List SV → Option AV} (size : List SV → Nat) (hm : P.follows .mixedOrders = true) (hT : CodeT P E) (hQ : QuietOK P E) (hP : PureOK P E)
    (h : ∀ m vs r, F vs = some r → size vs = m → ∃ n r', evP (E.add f (fun us => if size us < m then F us else none)) n f vs = some r' ∧ r'.weak r) : PureFn P E f F := by
  classical
  have key : ∀ m, PureFn P E f (fun us => if size us < m then F us else none) := by
    intro m
    induction m with
    | zero => intro vs r hF; simp at hF
    | succ m ih =>
      intro vs r hF
      simp only at hF
      split at hF
      · rename_i hlt
        by_cases hm' : size vs = m
        · have hP' := hP.add ih
          have := PureFn.of (E := E.add f (fun us => if size us < m then F us else none)) (F := fun us => if us = vs then some r else none) hm (fun g fn hg => hT g fn hg) (fun g hg => hQ g hg) hP' (fun us r2 hr2 => by
            by_cases e : us = vs
            · subst e
              simp only [if_true, Option.some.injEq] at hr2
              subst hr2
              exact h m us _ hF hm'
            · simp [e] at hr2)
          exact (this.glob (E' := E) rfl) vs r (by simp)
        · exact ih vs r (by simp only; rw [if_pos (by omega)]; exact hF)
      · simp at hF
  intro vs r hF
  exact key (size vs + 1) vs r (by simp [hF])

/-! ### Loops -/

theorem rounds_more {b : St → Option (AExit × St)} : ∀ {n m : Nat} {s : St} {r : AExit × St}, rounds b n s = some r → n ≤ m → rounds b m s = some r
  | 0, _, _, _, h, _ => by simp [rounds] at h
  | n + 1, 0, _, _, _, h => by omega
  | n + 1, m + 1, s, r, h, hle => by
    simp only [rounds] at h ⊢
    cases hb : b s with
    | none => rw [hb] at h; simp at h
    | some p =>
      obtain ⟨e, s1⟩ := p
      rw [hb] at h
      cases e with
      | normal => exact rounds_more (n := n) (m := m) h (by omega)
      | exit id => exact h
      | ret => exact h

theorem rounds_step {b : St → Option (AExit × St)} {n : Nat} {s s1 : St} (h : b s = some (.normal, s1)) : rounds b (n + 1) s = rounds b n s1 := by
  simp only [rounds, h]

theorem rounds_out {b : St → Option (AExit × St)} {n : Nat} {s s1 : St} {e : AExit} (h : b s = some (e, s1)) (he : e ≠ .normal) : rounds b (n + 1) s = some (e, s1) := by
  simp only [rounds, h]
  cases e with
  | normal => exact absurd rfl he
  | _ => rfl

attribute [simp] evC keepNil runOps opRun wants stepOp stepV enter Opd.ev St.rd AV.copy St.put St.set clearTmp lazyAfter AV.str? AV.sv? AV.bool? AV.int? AV.elems AV.arg St.kill optInt upTo endOf mapOpt resOf sink sinkQ sinks sinkL SV.can SV.can0 argSV target St.disown Opd.disown appBase doApp doCall cellsAt takeN addrPlus fillS splice doStore doLook setCells Box.cells Cell.plain uni SV.cells AV.nil? below Env.add binSV

end Go.Ev

set_option linter.unusedSimpArgs false
set_option linter.unusedVariables false
namespace Go.Ev
variable {P : Program} {E : Env}

def CfLe (cf cf' : CallF) : Prop := ∀ f args bx r, cf f args bx = some r → cf' f args bx = some r

theorem doCall_mono {cf cf' : CallF} (h : CfLe cf cf') {q : Bool} {f : Nat} {args : List AV} {bx : List Box} {r : AV × List Box} (hr : doCall E cf q f args bx = some r) : doCall E cf' q f args bx = some r := by
  unfold doCall at hr ⊢
  split
  · rename_i F hF
    rw [hF] at hr; exact hr
  · rename_i hF
    rw [hF] at hr
    simp only at hr
    split
    · rename_i hq; rw [if_pos hq] at hr; exact hr
    · rename_i hq; rw [if_neg hq] at hr; exact h _ _ _ _ hr

theorem stepV_mono {cf cf' : CallF} (h : CfLe cf cf') {q : Bool} {d : Option Nat} {s : St} {op : AOp} {r : AV × St} (hr : stepV E cf q d s op = some r) : stepV E cf' q d s op = some r := by
  cases op
  case call f args =>
    simp only [stepV] at hr ⊢
    split at hr <;> try (simp at hr; done)
    split at hr <;> try (simp at hr; done)
    rename_i h1 _ _ _ h2
    rw [doCall_mono h h2]
    exact hr
  all_goals exact hr

theorem opRun_mono {cf cf' : CallF} (h : CfLe cf cf') {q : Bool} {all : List SOp} {o : SOp} {s s' : St} (hr : opRun E cf q all o s = some s') : opRun E cf' q all o s = some s' := by
  unfold opRun at hr ⊢
  split at hr
  · unfold stepOp at hr ⊢
    split at hr
    · rename_i h2
      rw [stepV_mono h h2]
      exact hr
    · simp at hr
  · exact hr
  · simp at hr

theorem runOps_mono {cf cf' : CallF} (h : CfLe cf cf') {q : Bool} {all : List SOp} : ∀ {ops : List SOp} {s s' : St}, runOps E cf q all ops s = some s' → runOps E cf' q all ops s = some s'
  | [], _, _, hr => hr
  | o :: ops, s, s', hr => by
    simp only [runOps] at hr ⊢
    split at hr
    · rename_i h2
      rw [opRun_mono h h2]
      exact runOps_mono h hr
    · simp at hr

theorem rounds_mono {b b' : St → Option (AExit × St)} (h : ∀ s r, b s = some r → b' s = some r) : ∀ {n m : Nat} {s : St} {r : AExit × St}, n ≤ m → rounds b n s = some r → rounds b' m s = some r
  | 0, _, _, _, _, hr => by simp [rounds] at hr
  | n + 1, 0, _, _, hle, _ => by omega
  | n + 1, m + 1, s, r, hle, hr => by
    simp only [rounds] at hr ⊢
    cases hb : b s with
    | none => rw [hb] at hr; simp at hr
    | some p =>
      rw [h s p hb]
      rw [hb] at hr
      obtain ⟨e, s1⟩ := p
      cases e with
      | normal => exact rounds_mono h (by omega) hr
      | exit id => exact hr
      | ret => exact hr

theorem evC_mono {cf cf' : CallF} (h : CfLe cf cf') {n m : Nat} (hnm : n ≤ m) : ∀ {c : ACode} {s : St} {r : AExit × St}, evC E cf n c s = some r → evC E cf' m c s = some r := by
  intro c
  induction c with
  | skip => intro s r hr; exact hr
  | region hd ops =>
    intro s r hr
    simp only [evC] at hr ⊢
    split at hr
    · rename_i h1
      rw [runOps_mono h h1]
      simp only
      split at hr
      · rename_i h2
        rw [runOps_mono h h2]
        exact hr
      · simp at hr
    · simp at hr
  | seq a b iha ihb =>
    intro s r hr
    simp only [evC] at hr ⊢
    cases ha : evC E cf n a s with
    | none => rw [ha] at hr; simp at hr
    | some p =>
      rw [iha ha]
      rw [ha] at hr
      obtain ⟨e, s1⟩ := p
      cases e with
      | normal => exact ihb hr
      | exit id => exact hr
      | ret => exact hr
  | cond c t e iht ihe =>
    intro s r hr
    simp only [evC] at hr ⊢
    split at hr
    · rename_i b hb
      split at hr
      · rename_i hb'; rw [if_pos hb']; exact iht hr
      · rename_i hb'; rw [if_neg hb']; exact ihe hr
    · simp at hr
  | block id b ih =>
    intro s r hr
    simp only [evC] at hr ⊢
    cases hb : evC E cf n b s with
    | none => rw [hb] at hr; simp at hr
    | some p =>
      rw [ih hb]
      rw [hb] at hr
      exact hr
  | loop b ih =>
    intro s r hr
    simp only [evC] at hr ⊢
    exact rounds_mono (fun s r hb => ih hb) hnm hr
  | exit id => intro s r hr; exact hr
  | scope b ih => intro s r hr; exact ih hr
  | ret => intro s r hr; exact hr
  | kill ts => intro s r hr; exact hr
  | bad => intro s r hr; exact hr

theorem evF_mono : ∀ {n m : Nat}, n ≤ m → CfLe (evF E n) (evF E m)
  | 0, _, _ => fun f args bx r hr => by simp [evF] at hr
  | n + 1, 0, hle => by omega
  | n + 1, m + 1, hle => fun f args bx r hr => by
    simp only [evF] at hr ⊢
    split
    · rename_i fn hf
      rw [hf] at hr
      simp only at hr
      cases hb : evC E (evF E n) n fn.body (enter fn args bx) with
      | none => rw [hb] at hr; simp at hr
      | some p =>
        rw [evC_mono (evF_mono (by omega)) (by omega) hb]
        rw [hb] at hr
        exact hr
    · rename_i hf
      rw [hf] at hr; simp at hr

theorem evP_mono {n m : Nat} (hle : n ≤ m) {f : Nat} {vs : List SV} {r : AV} (hr : evP E n f vs = some r) : evP E m f vs = some r := by
  unfold evP at hr ⊢
  split
  · rename_i fn hf
    rw [hf] at hr
    simp only at hr
    cases hb : evC E (evF E n) n fn.body (enter fn (vs.map .sv) []) with
    | none => rw [hb] at hr; simp at hr
    | some p =>
      rw [evC_mono (evF_mono hle) hle hb]
      rw [hb] at hr
      exact hr
  · rename_i hf
    rw [hf] at hr; simp at hr

theorem evP_det {n m : Nat} {f : Nat} {vs : List SV} {r r' : AV} (h : evP E n f vs = some r) (h' : evP E m f vs = some r') : r = r' := by
  have h1 := evP_mono (Nat.le_max_left n m) h
  have h2 := evP_mono (Nat.le_max_right n m) h'
  rw [h1] at h2
  exact Option.some.inj h2

/-- A list, whoever owns it. -/
def AV.weaken (r : AV) : AV := match r.elems with
  | some xs => .sv (.sl xs)
  | none => r

open Classical in
/-- What a function answers by its own code. -/
noncomputable def autoF (E : Env) (f : Nat) (vs : List SV) : Option AV := if h : ∃ r, ∃ n, evP E n f vs = some r then some (Classical.choose h).weaken else none

theorem autoF_eq {n f : Nat} {vs : List SV} {r : AV} (h : evP E n f vs = some r) : autoF E f vs = some r.weaken := by
  unfold autoF
  have hex : ∃ r, ∃ n, evP E n f vs = some r := ⟨r, n, h⟩
  rw [dif_pos hex]
  obtain ⟨m, hm⟩ := Classical.choose_spec hex
  rw [evP_det hm h]

theorem autoF_sv {n f : Nat} {vs : List SV} {v : SV} (h : evP E n f vs = some (.sv v)) (hv : AV.elems (.sv v) = none) : autoF E f vs = some (.sv v) := by
  rw [autoF_eq h]
  unfold AV.weaken
  rw [hv]

theorem autoF_sl {n f : Nat} {vs : List SV} {r : AV} {xs : List SV} (h : evP E n f vs = some r) (hv : r.elems = some xs) : autoF E f vs = some (.sv (.sl xs)) := by
  rw [autoF_eq h]
  unfold AV.weaken
  rw [hv]

/-- The table's answer of a function, and what is known of it. -/
def Has (E : Env) (f : Nat) (Q : (List SV → Option AV) → Prop) : Prop := ∃ F, E.pure f = some F ∧ Q F

theorem PureFn.auto {f : FuncId} (hm : P.follows .mixedOrders = true) (hT : CodeT P E) (hQ : QuietOK P E) (hP : PureOK P E) : PureFn P E f (autoF E f) := by
  refine PureFn.of hm hT hQ hP fun vs r hF => ?_
  unfold autoF at hF
  split at hF
  · rename_i hex
    simp only [Option.some.injEq] at hF
    obtain ⟨m, hm'⟩ := Classical.choose_spec hex
    refine ⟨m, _, hm', ?_⟩
    subst hF
    unfold AV.weaken
    split
    · rename_i xs hxs
      exact .inr ⟨xs, rfl, hxs⟩
    · exact .inl rfl
  · simp at hF

end Go.Ev
