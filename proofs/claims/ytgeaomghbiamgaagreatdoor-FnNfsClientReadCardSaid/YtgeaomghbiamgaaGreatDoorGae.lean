/- One operation: all kinds. -/
/- Calls: what is asked of a called function, and one operation with what follows it. -/
/- Regions in the text's order. -/
/- What only computes looks at its operands alone. -/
/- Regions that draw their order. -/
import Derived.Test.YtgeaomghbiamgaaGreatDoorGad
set_option linter.unusedSimpArgs false
set_option linter.unusedVariables false
namespace Go.Ev
variable {P : Program} {E : Env} {γ : Gh} {a : Act} {w : World} {s : St} {o : Oper} {cf : CallF} {q : Bool} {s1 : St} {av : AV}

theorem op_movL (hR : R P γ a w s) (hG : GlobOK E γ) {t : Nat} (ho : o.op = .move (.tmp t)) (h : stepV E cf q o.dst s (.movL t) = some (av, s1)) : Done P γ a w o av s1 := by
  simp only [stepV] at h
  split at h <;> simp only [Option.some.injEq, Prod.mk.injEq, reduceCtorEq] at h
  obtain ⟨rfl, rfl⟩ := h
  exact op_mov hR hG ho (show opd (.tmp t) = some (.t t) from rfl)

theorem allSome_map {α β γ : Type} {f : α → Option β} (g : β → γ) : ∀ {l : List α} {m : List β}, allSome (l.map f) = some m → allSome (l.map fun x => (f x).map g) = some (m.map g)
  | [], m, h => by simp only [List.map_nil, allSome, Option.some.injEq] at h; subst h; rfl
  | x :: l, m, h => by
    simp only [List.map_cons] at h ⊢
    cases hx : f x with
    | none => rw [hx] at h; simp [allSome] at h
    | some y =>
      rw [hx] at h
      simp only [Option.map_some, allSome] at h ⊢
      split at h <;> simp only [Option.some.injEq, reduceCtorEq] at h
      rename_i ys hys
      subst h
      rw [allSome_map g hys]
      rfl

theorem op_struct (hR : R P γ a w s) (hG : GlobOK E γ) {t : TypeId} {parts : Array (Nat × Operand)} {z : List SV} {fs : Array Field} {l : List (Nat × Nat × Opd)}
    (ho : o.op = .build t parts) (ht : P.underlying t = some (.struct fs)) (hz : zeroSV P t = some z) (hf : fs.toList.all (fun f => (P.info? f.type).isSome) = true)
    (hl : allSome (parts.toList.map fun p => match fs[p.1]?, opd p.2 with
        | some f, some x => (P.info? f.type).map fun i => (f.offset, i.size, x)
        | _, _ => none) = some l) (h : stepV E cf q o.dst s (.build z l) = some (av, s1)) : Done P γ a w o av s1 := by
  refine op_build hR hG (d := .struct fs) (place := fun j : Nat => (fs[j]?).map fun f : Field => (f.offset, P.cellsOf f.type)) ho hz hl ?_ (build_struct ht hf) h
  intro p r hg
  split at hg <;> simp only [Option.map_eq_some_iff, reduceCtorEq] at hg
  rename_i f x hf' hx
  obtain ⟨i, hi, rfl⟩ := hg
  refine ⟨hx, ?_⟩
  simp [hf', Program.cellsOf, hi]

theorem op_array (hR : R P γ a w s) (hG : GlobOK E γ) {t e : TypeId} {n : Nat} {i : TypeInfo} {parts : Array (Nat × Operand)} {z : List SV} {l : List (Nat × Opd)}
    (ho : o.op = .build t parts) (ht : P.underlying t = some (.array n e)) (hz : zeroSV P t = some z) (hi : P.info? e = some i)
    (hl : allSome (parts.toList.map fun p => (opd p.2).map fun x => (p.1, x)) = some l) (h : stepV E cf q o.dst s (.build z (l.map fun p => (p.1 * i.size, i.size, p.2))) = some (av, s1)) : Done P γ a w o av s1 := by
  have hl' := allSome_map (fun p : Nat × Opd => (p.1 * i.size, i.size, p.2)) hl
  refine op_build hR hG (d := .array n e) (place := fun j => some (j * i.size, i.size)) ho hz hl' ?_ (build_array ht hi) h
  intro p r hg
  simp only [Option.map_map, Option.map_eq_some_iff] at hg
  obtain ⟨x, hx, rfl⟩ := hg
  exact ⟨hx, rfl⟩

theorem done_of (hR : R P γ a w s) (hG : GlobOK E γ) {ops : Array Oper} {op : AOp} (hc : cOp P ops o = some op) (hnc : ∀ f args, op ≠ .call f args) (hnd : ∀ f, op ≠ .dfr f)
    (h : stepV E cf q o.dst s op = some (av, s1)) : Done P γ a w o av s1 := by
  unfold cOp at hc
  split at hc
  · -- move
    rename_i x ho
    split at hc
    · simp only [Option.some.injEq] at hc; subst hc; exact op_movL hR hG ho h
    · simp only [Option.map_eq_some_iff] at hc; obtain ⟨y, hy, rfl⟩ := hc
      simp only [stepV, Option.some.injEq, Prod.mk.injEq] at h
      obtain ⟨rfl, rfl⟩ := h
      exact op_mov hR hG ho hy
  · rename_i x ho
    simp only [Option.map_eq_some_iff] at hc; obtain ⟨y, hy, rfl⟩ := hc
    exact op_asg hR hG ho hy h
  · rename_i c x y ho
    split at hc <;> simp only [Option.some.injEq, reduceCtorEq] at hc
    subst hc
    simp only [stepV] at h
    split at h <;> simp only [Option.some.injEq, Prod.mk.injEq, reduceCtorEq] at h
    obtain ⟨rfl, rfl⟩ := h
    exact op_pick hR hG ho (by assumption) (by assumption) (by assumption) (by assumption)
  · -- load
    rename_i t p ho
    split at hc <;> try (simp at hc; done)
    · rename_i hp hn
      split at hc <;> simp only [Option.some.injEq] at hc <;> subst hc
      · exact op_loadL hR hG ho hn hp h
      · exact op_load hR hG ho hn hp h
    · simp only [Option.some.injEq] at hc; subst hc
      exact op_load hR hG ho (by assumption) (by assumption) h
  · -- store
    rename_i t p v ho
    split at hc <;> simp only [Option.some.injEq, reduceCtorEq] at hc
    subst hc
    exact op_store hR hG ho (by assumption) (by assumption) (by assumption) h
  · rename_i t ho
    simp only [Option.map_eq_some_iff] at hc; obtain ⟨z, hz, rfl⟩ := hc
    exact op_new hR hG ho hz h
  · rename_i t x ho
    split at hc <;> simp only [Option.some.injEq, reduceCtorEq] at hc
    subst hc
    exact op_box hR hG ho (by assumption) (by assumption) h
  · -- build
    rename_i t parts ho
    split at hc <;> try (simp at hc; done)
    · split at hc <;> try (simp at hc; done)
      split at hc <;> simp only [Option.some.injEq, reduceCtorEq] at hc
      subst hc
      exact op_struct hR hG ho (by assumption) (by assumption) (by assumption) (by assumption) h
    · split at hc <;> simp only [Option.some.injEq, reduceCtorEq] at hc
      subst hc
      exact op_array hR hG ho (by assumption) (by assumption) (by assumption) (by assumption) h
  · -- buildSlice
    rename_i t n parts ho
    split at hc <;> try (simp at hc; done)
    split at hc <;> try (simp at hc; done)
    split at hc <;> simp only [Option.some.injEq, reduceCtorEq] at hc
    rename_i hcond
    subst hc
    exact op_mkSl hR hG ho (by assumption) (by assumption) (by assumption) hcond.1 hcond.2.1 hcond.2.2.1 hcond.2.2.2 h
  · -- binOp
    rename_i op' t x y t' ho
    split at hc
    · simp only [Option.some.injEq] at hc; subst hc; exact op_bin hR hG ho (by assumption) (by assumption) h
    · simp only [Option.some.injEq] at hc; subst hc; exact op_bin hR hG ho (by assumption) (by assumption) h
    · simp only [Option.some.injEq] at hc; subst hc; exact op_bin hR hG ho (by assumption) (by assumption) h
    · split at hc <;> simp only [Option.some.injEq, reduceCtorEq] at hc <;> subst hc
      · exact op_eqB hR hG (ng := false) rfl ho (by assumption) (by assumption) (by assumption) h
      · exact op_eqB hR hG (ng := true) rfl ho (by assumption) (by assumption) (by assumption) h
    · rename_i ha hb ht
      split at hc <;> try (simp at hc; done)
      rename_i k hk
      split at hc <;> simp only [Option.some.injEq, reduceCtorEq] at hc <;> subst hc
      · exact op_isNil hR hG (ng := false) rfl ht hk ho ha (.inl ⟨rfl, by assumption⟩) h
      · exact op_isNil hR hG (ng := true) rfl ht hk ho ha (.inl ⟨rfl, by assumption⟩) h
      · exact op_isNil hR hG (ng := false) rfl ht hk ho hb (.inr ⟨rfl, by assumption⟩) h
      · exact op_isNil hR hG (ng := true) rfl ht hk ho hb (.inr ⟨rfl, by assumption⟩) h
    · simp at hc
  · -- unOp
    rename_i op' t x ho
    split at hc <;> simp only [Option.some.injEq, reduceCtorEq] at hc <;> subst hc
    · exact op_not hR hG ho (by assumption) h
    · exact op_neg hR hG ho (by assumption) h
    · exact op_cpl hR hG ho (by assumption) h
  · -- convert
    rename_i t d x ho
    split at hc
    · simp only [Option.some.injEq] at hc; subst hc; exact op_i2i hR hG ho (by assumption) (by assumption) (by assumption) h
    · simp only [Option.some.injEq] at hc; subst hc; exact op_i2f hR hG ho (by assumption) (by assumption) (by assumption) h
    · simp only [Option.some.injEq] at hc; subst hc; exact op_s2s hR hG ho (by assumption) (by assumption) (by assumption) h
    · split at hc <;> try (simp at hc; done)
      split at hc <;> simp only [Option.some.injEq] at hc <;> subst hc
      · exact op_s2r hR hG ho (by assumption) (by assumption) (by assumption) (by assumption) h
      · exact op_s2b hR hG ho (by assumption) (by assumption) (by assumption) (by assumption) h
    · split at hc <;> simp only [Option.some.injEq, reduceCtorEq] at hc; subst hc; exact op_b2s hR hG ho (by assumption) (by assumption) (by assumption) (by assumption) h
    · simp at hc
  · -- makeInterface
    rename_i t x ho
    split at hc
    · simp at hc
    · rename_i a' d hd hx ht
      simp only [Option.some.injEq] at hc; subst hc
      exact op_mkI hR hG ho ht (fun ms e => hd ms e) hx h
    · simp at hc
  · rename_i f first cap ho
    split at hc <;> simp only [Option.some.injEq, reduceCtorEq] at hc
    subst hc
    exact op_mkF hR hG ho (by assumption) (by assumption) h
  · -- makeSlice
    rename_i t l c ho
    split at hc <;> try (simp at hc; done)
    rename_i e ht
    split at hc <;> try (simp at hc; done)
    rename_i k b z l' c' hs hz hl hcc
    split at hc <;> try (simp at hc; done)
    rename_i hk
    split at hc
    · split at hc <;> simp only [Option.some.injEq, reduceCtorEq] at hc
      rename_i hij; subst hij; subst hc
      exact op_mkR hR hG ho ht hs hz hk hl hcc h
    · split at hc
      · rename_i hkn
        obtain ⟨rfl, rfl⟩ := hkn
        simp only [Option.some.injEq] at hc; subst hc
        exact op_mkR hR hG ho ht hs hz hk hl hcc h
      · split at hc <;> simp only [Option.some.injEq, reduceCtorEq] at hc
        rename_i hn; subst hn; subst hc
        exact op_mkC hR hG ⟨_, ho, hl⟩ ht hs (by rw [hz]; rfl) hk hcc h
    · split at hc <;> simp only [Option.some.injEq, reduceCtorEq] at hc
      rename_i hn; subst hn; subst hc
      exact op_mkC hR hG ⟨_, ho, hl⟩ ht hs (by rw [hz]; rfl) hk hcc h
    · simp at hc
  · -- slice
    rename_i t x lo hi ho
    split at hc
    · simp only [Option.some.injEq] at hc; subst hc; exact op_subS hR hG ho (by assumption) (by assumption) (by assumption) (by assumption) h
    · simp only [Option.map_eq_some_iff] at hc; obtain ⟨i, hi', rfl⟩ := hc
      exact op_subL hR hG ho (by assumption) hi' (by assumption) (by assumption) (by assumption) h
    · simp at hc
  · -- fieldAddr
    rename_i t p f ho
    split at hc <;> try (simp at hc; done)
    split at hc <;> try (simp at hc; done)
    split at hc <;> try (simp at hc; done)
    split at hc <;> simp only [Option.some.injEq, reduceCtorEq] at hc
    subst hc
    exact op_fAddr hR hG ho (by assumption) (by assumption) (by assumption) (by assumption) (by assumption) h
  · rename_i t x f ho
    split at hc <;> try (simp at hc; done)
    split at hc <;> try (simp at hc; done)
    simp only [Option.map_eq_some_iff] at hc; obtain ⟨n, hn, rfl⟩ := hc
    exact op_fld hR hG ho (by assumption) (by assumption) hn (by assumption) h
  · rename_i t x i ho
    split at hc
    · simp only [Option.map_eq_some_iff] at hc; obtain ⟨j, hj, rfl⟩ := hc
      exact op_iAddrS hR hG ho (by assumption) hj (by assumption) (by assumption) h
    · simp only [Option.map_eq_some_iff] at hc; obtain ⟨j, hj, rfl⟩ := hc
      exact op_iAddrA hR hG ho (by assumption) hj (by assumption) (by assumption) h
    · simp at hc
  · rename_i t x i ho
    split at hc
    · simp only [Option.some.injEq] at hc; subst hc; exact op_idxS hR hG ho (by assumption) (by assumption) (by assumption) h
    · split at hc <;> simp only [Option.some.injEq, reduceCtorEq] at hc
      subst hc
      exact op_idxA hR hG ho (by assumption) (by assumption) (by assumption) (by assumption) (by assumption) h
    · simp at hc
  · rename_i x i ho
    simp only [Option.map_eq_some_iff] at hc; obtain ⟨y, hy, rfl⟩ := hc
    exact op_ext hR hG ho hy h
  · -- call
    rename_i c ho
    split at hc <;> try (simp at hc; done)
    rename_i args hargs
    split at hc
    · simp only [Option.map_eq_some_iff] at hc; obtain ⟨y, hy, rfl⟩ := hc
      exact absurd rfl (hnc _ _)
    · -- len
      rename_i hcal
      split at hc <;> try (simp at hc; done)
      rename_i x' t hct
      have hone : ∃ x, c.args.toList = [x] ∧ opd x = some x' := by
        have hl := (opds_get hargs)
        match hca : c.args.toList with
        | [] => rw [hca] at hl; simp at hl
        | [x] =>
          rw [hca] at hl
          obtain ⟨_, h2⟩ := hl
          obtain ⟨y, hy, hyo⟩ := h2 0 x' rfl
          simp only [List.getElem?_cons_zero, Option.some.injEq] at hy
          subst hy
          exact ⟨x, rfl, hyo⟩
        | x :: y :: r => rw [hca] at hl; simp at hl
      obtain ⟨x, hca, hx⟩ := hone
      split at hc <;> simp only [Option.some.injEq, reduceCtorEq] at hc <;> subst hc
      · exact op_lenS hR hG ho hcal hca hct (by assumption) hx h
      · exact op_lenL hR hG ho hcal hca hct (by assumption) hx h
    · -- append
      rename_i hcal
      split at hc <;> try (simp at hc; done)
      rename_i x' y' x y t u hca hct
      split at hc <;> try (simp at hc; done)
      rename_i e hte
      split at hc <;> try (simp at hc; done)
      rename_i htu
      obtain ⟨rfl, hz⟩ := htu
      split at hc <;> simp only [Option.some.injEq, reduceCtorEq] at hc
      rename_i k n hsz
      subst hc
      rw [hca] at hargs
      obtain ⟨_, h2⟩ := opds_get hargs
      have hx : opd x = some x' := by
        obtain ⟨z, hz, hzo⟩ := h2 0 x' rfl
        simp only [List.getElem?_cons_zero, Option.some.injEq] at hz
        subst hz; exact hzo
      have hy : opd y = some y' := by
        obtain ⟨z, hz, hzo⟩ := h2 1 y' rfl
        simp only [List.getElem?_cons_succ, List.getElem?_cons_zero, Option.some.injEq] at hz
        subst hz; exact hzo
      have hcc : c = { callee := .builtin .append, args := #[x, y], argTypes := #[t, t] } := by
        obtain ⟨c1, c2, c3⟩ := c
        simp only at hcal hca hct
        have e2 : c2 = #[x, y] := by rw [← hca]
        have e3 : c3 = #[t, t] := by rw [← hct]
        rw [hcal, e2, e3]
      rw [hcc] at ho
      exact op_app hR hG ho hte hsz hz hx hy h
    · rename_i hcal
      split at hc <;> simp only [Option.some.injEq, reduceCtorEq] at hc
      subst hc
      obtain ⟨x, y, hca, hx, hy⟩ := two_args hargs
      exact op_mm (mx := true) hR hG ho hcal hca hx hy h
    · rename_i hcal
      split at hc <;> simp only [Option.some.injEq, reduceCtorEq] at hc
      subst hc
      obtain ⟨x, y, hca, hx, hy⟩ := two_args hargs
      exact op_mm (mx := false) hR hG ho hcal hca hx hy h
    · simp at hc
  · rename_i x ho
    simp only [Option.map_eq_some_iff] at hc; obtain ⟨y, hy, rfl⟩ := hc
    exact op_nilChk hR hG ho hy h
  · rename_i c ho
    split at hc <;> try (simp at hc; done)
    simp only [Option.map_eq_some_iff] at hc; obtain ⟨y, hy, rfl⟩ := hc
    exact absurd rfl (hnd _)
  · rename_i t x ho
    split at hc <;> simp only [Option.some.injEq, reduceCtorEq] at hc
    subst hc
    exact op_rngS hR hG ho (by assumption) (by assumption) h
  · rename_i x b ho
    split at hc <;> try (simp at hc; done)
    rename_i hb
    subst hb
    simp only [Option.map_eq_some_iff] at hc; obtain ⟨y, hy, rfl⟩ := hc
    exact op_nextS hR hG ho hy h
  · simp at hc

end Go.Ev

set_option linter.unusedSimpArgs false
set_option linter.unusedVariables false
namespace Go.Ev
variable {P : Program} {E : Env} {γ : Gh} {a : Act} {w : World} {s : St} {o : Oper} {cf : CallF} {q : Bool} {s1 : St} {av : AV}

/-- The call comes to a value. -/
def CallOK (P : Program) (f : FuncId) (args : Array Value) (w : World) (Post : Value → World → Prop) : Prop :=
  (∃ v w', (callFunc f args).run P w = .ok (.value v) w' ∧ Post v w') ∨
  ∃ g as, (callFunc f args).run P w = .ok (.enter g as) w ∧ Calls P g as w fun e w' => ∃ v, e = .returned v ∧ Post v w'

theorem CallOK.mono {f : FuncId} {args : Array Value} {Post Post' : Value → World → Prop} (h : CallOK P f args w Post) (hp : ∀ v w', Post v w' → Post' v w') : CallOK P f args w Post' := by
  rcases h with ⟨v, w', h1, h2⟩ | ⟨g, as, h1, h2⟩
  · exact .inl ⟨v, w', h1, hp _ _ h2⟩
  · exact .inr ⟨g, as, h1, h2.mono fun e w' ⟨v, hv, hr⟩ => ⟨v, hv, hp _ _ hr⟩⟩

def GlobF (E : Env) (F : Frz) : Prop := ∀ g, RepS F (.ref (E.glob g)) (.pointer (some ⟨g, 0, none⟩))

/-- What is known of one function by its table's entry. -/
def PureFn (P : Program) (E : Env) (f : FuncId) (F : List SV → Option AV) : Prop :=
  ∀ vs r, F vs = some r → ∀ (F0 : Frz) (w : World) (us : Array Value), GlobF E F0 → (∀ b o v, F0 b o v → w.cell? ⟨b, o, none⟩ = some v) → us.size = vs.length →
    (∀ (j : Nat) (x : SV), vs[j]? = some x → RepS F0 x (us.getD j undef)) →
    CallOK P f us w fun v w' => ∃ γ', Fresh ⟨F0, [], fun _ => none, fun _ => none⟩ w γ' w' ∧ RepA P γ' w' .ret r v

/-- What is known of functions that only look into a box. -/
def LookOK (P : Program) (E : Env) : Prop := ∀ f k, E.look f = some k → ∀ (b : Nat) (w : World) (u : Value), w.cell? ⟨b, k, none⟩ = some u → ∀ us : Array Value, us.size = 1 → us.getD 0 undef = .pointer (some ⟨b, 0, none⟩) →
  CallOK P f us w fun v w' => v = u ∧ w' = w

def PureOK (P : Program) (E : Env) : Prop := (∀ f F, E.pure f = some F → PureFn P E f F) ∧ LookOK P E

/-- What is asked of a function that runs in its caller's boxes. -/
def CfOK (P : Program) (E : Env) (cf : CallF) : Prop :=
  ∀ f args bx r bx', cf f args bx = some (r, bx') → ∀ (γ : Gh) (w : World) (us : Array Value), GlobOK E γ → BoxesOK P γ w bx → us.size = args.length →
    (∀ (j : Nat) (x : AV), args[j]? = some x → x.isOwn = false ∧ RepA P γ w .ret x (us.getD j undef)) →
    CallOK P f us w fun v w' => ∃ γ', BoxesOK P γ' w' bx' ∧ Ext γ w γ' w' ∧ RepA P γ' w' .ret r v

/-- What a deferred call does that only looks whether there is a panic: nothing. -/
def QuietOK (P : Program) (E : Env) : Prop := ∀ f, E.quiet f = true → ∀ (args : Array Value) (w : World),
  (callFunc f args).run P w = .ok (.enter f args) w ∧ CallsD P f args .returning w fun e u' w' => (∃ v, e = .returned v) ∧ u' = .returning ∧ w' = w

theorem argSV_spec {av : AV} {v : SV} (h : argSV av = some v) : av = .sv v := by
  unfold argSV at h
  split at h <;> simp only [Option.some.injEq, reduceCtorEq] at h
  rw [h]

theorem pure_call (hP : PureOK P E) (hG : GlobOK E γ) {bx : List Box} (hb : BoxesOK P γ w bx) {f : FuncId} {F : List SV → Option AV} (hf : E.pure f = some F) {args : List AV} {vs : List SV} {r : AV}
    (hvs : mapOpt argSV args = some vs) (hF : F vs = some r) {us : Array Value} (hs : us.size = args.length) (hr : ∀ (j : Nat) (x : AV), args[j]? = some x → x.isOwn = false ∧ RepA P γ w .ret x (us.getD j undef)) :
    CallOK P f us w fun v w' => ∃ γ', Fresh γ w γ' w' ∧ RepA P γ' w' .ret r v := by
  obtain ⟨l1, l2⟩ := mapOpt_spec hvs
  refine (hP.1 f F hf vs r hF γ.F w us hG hb.Fw (by rw [hs, l1]) (fun j x hx => ?_)).mono ?_
  · have hj : j < args.length := by rw [← l1]; exact (List.getElem?_eq_some_iff.1 hx).1
    obtain ⟨y, hy, hy2⟩ := l2 j args[j] (by simp [hj])
    rw [hx] at hy
    obtain rfl := Option.some.inj hy
    have h3 := (hr j args[j] (by simp [hj])).2
    rw [argSV_spec hy2] at h3
    exact h3.sv_inv
  · rintro v w' ⟨γ1, hfr, hrep⟩
    let γ' : Gh := { F := γ1.F, β := γ.β, ow := fun b => if b < w.heap.size then γ.ow b else γ1.ow b, sh := γ.sh }
    have hfresh : Fresh γ w γ' w' := by
      refine ⟨hfr.os, hfr.tape, hfr.output, hfr.size, hfr.blk, hfr.F, hfr.Fold, hfr.Fw, rfl, rfl, fun b hb => by simp [γ', hb], fun b ℓ hl ho => ?_⟩
      simp only [γ'] at ho
      rw [if_neg (by omega)] at ho
      exact hfr.new b ℓ hl ho
    refine ⟨γ', hfresh, hrep.keep (fun _ _ _ h => h) (fun i b hi => ?_) (fun g _ hg => ⟨rfl, fun _ _ h => h, ?_⟩) ?_⟩
    · rw [hfr.β] at hi; simp at hi
    · show (if g < w.heap.size then γ.ow g else γ1.ow g) = _
      by_cases hgl : g < w.heap.size
      · rw [hfr.ow g hgl] at hg; simp at hg
      · rw [if_neg hgl]; exact hg
    · intro b x hx
      rw [hfr.sh] at hx; simp at hx

/-- Only the cells' owners. -/
def Gh.cellsOnly (γ : Gh) : Gh := { γ with ow := fun b => match γ.ow b with | some (.cell i j) => some (.cell i j) | _ => none }

theorem BoxesOK.cellsOnly {bx : List Box} (h : BoxesOK P γ w bx) : BoxesOK P γ.cellsOnly w bx where
  len := h.len
  box := fun i b blk hi hk => (h.box i b blk hi hk).keep (fun _ _ _ h => h) rfl (fun _ _ h => h) (fun g j hg => ⟨rfl, fun _ _ h => h, by simp [Gh.cellsOnly, hg]⟩) (fun _ _ h => h)
  nodup := h.nodup
  Fw := h.Fw
  ow := fun b ℓ ho => by
    simp only [Gh.cellsOnly] at ho
    split at ho
    · rename_i e; exact h.ow b _ e
    · simp at ho
  sh := h.sh

theorem cf_call (hC : CfOK P E cf) (hG : GlobOK E γ) (hR : R P γ a w s) {f : FuncId} {args : List AV} {bx' : List Box} {r : AV} (hcf : cf f args s.bx = some (r, bx')) {us : Array Value} (hs : us.size = args.length)
    (hr : ∀ (j : Nat) (x : AV), args[j]? = some x → x.isOwn = false ∧ RepA P γ w .ret x (us.getD j undef)) :
    CallOK P f us w fun v w' => ∃ γ', R P γ' a w' { s with bx := bx', lz := none } ∧ Ext γ w γ' w' ∧ RepA P γ' w' .ret r v := by
  refine (hC f args s.bx r bx' hcf γ.cellsOnly w us hG hR.bx.cellsOnly hs (fun j x hx => ⟨(hr j x hx).1, (hr j x hx).2.keepN (hr j x hx).1 (fun _ _ _ h => h) (fun _ _ h => h)⟩)).mono ?_
  rintro v w' ⟨γ1, hb, he, hrep⟩
  let γ' : Gh := { F := γ1.F, β := γ1.β, sh := γ1.sh, ow := fun b => match γ.ow b with | some (.tmp t) => some (.tmp t) | _ => match γ1.ow b with | some (.tmp _) => none | x => x }
  have hF : ∀ b o v, γ.F b o v → γ'.F b o v := he.F
  have hβ : ∀ i b : Nat, γ.β[i]? = some b → γ'.β[i]? = some b := fun i b hi => by
    obtain ⟨l, hl, _⟩ := he.β
    show γ1.β[i]? = some b
    rw [hl]
    have hi' : γ.cellsOnly.β[i]? = some b := hi
    rw [List.getElem?_append_left (List.getElem?_eq_some_iff.1 hi').1]
    exact hi'
  have hfor : ∀ b t, γ.ow b = some (.tmp t) → Foreign γ.cellsOnly w b := fun b t h => ⟨(hR.bx.ow b _ h).1, (hR.bx.ow b _ h).2, by simp [Gh.cellsOnly, h]⟩
  have hot : ∀ b t, γ.ow b = some (.tmp t) → γ'.ow b = some (.tmp t) := fun b t h => by simp [γ', h]
  have hox : ∀ b ℓ, γ1.ow b = some ℓ → (∀ t, ℓ ≠ .tmp t) → γ'.ow b = some ℓ := by
    intro b ℓ h hn
    have h1 : ∀ t, γ.ow b ≠ some (.tmp t) := fun t ht => by have := he.own b (hfor b t ht); rw [h] at this; simp at this
    have hin : (match γ1.ow b with | some (.tmp _) => none | x => x) = some ℓ := by
      rw [h]
      cases ℓ with
      | tmp t => exact absurd rfl (hn t)
      | _ => rfl
    show (match γ.ow b with | some (.tmp t) => some (.tmp t) | _ => match γ1.ow b with | some (.tmp _) => none | x => x) = some ℓ
    cases hg : γ.ow b with
    | none => exact hin
    | some x =>
      cases x with
      | tmp t => exact absurd hg (h1 t)
      | _ => exact hin
  refine ⟨γ', ⟨⟨hb.len, fun i b blk hi hk => (hb.box i b blk hi hk).keep (fun _ _ _ h => h) rfl (fun _ _ h => h) (fun g j hg => ⟨rfl, fun _ _ h => h, hox g _ hg (by simp)⟩) (fun _ _ h => h), hb.nodup, hb.Fw, fun b ℓ ho => ?_, hb.sh⟩, hR.sz, fun t ht => ?_, by simp, hR.dl, hR.df⟩, ?_, ?_⟩
  · simp only [γ'] at ho
    split at ho
    · rename_i t ht
      obtain ⟨q1, q2⟩ := hR.bx.ow b _ ht
      refine ⟨Nat.lt_of_lt_of_le q1 he.size, fun hm => ?_⟩
      obtain ⟨l, hl, hn⟩ := he.β
      have hm' : b ∈ γ1.β := hm
      rw [hl] at hm'
      rcases List.mem_append.1 hm' with h | h
      · exact q2 h
      · rcases hn b h with h | h
        · omega
        · exact q2 h
    · split at ho
      · simp at ho
      · exact hb.ow b ℓ ho
  · exact (hR.tm t ht).keep hF hβ (fun g _ hg => ⟨he.blk g (hfor g t hg), fun o v h => he.Fnew g o v (hfor g t hg) h, hot g t hg⟩) he.sh
  · have hff : ∀ b, Foreign γ w b → Foreign γ.cellsOnly w b := fun b h => ⟨h.1, h.2.1, by simp [Gh.cellsOnly, h.2.2]⟩
    exact ⟨he.os, he.tape, he.output, he.size, he.F, he.β, fun b h => he.blk b (hff b h), fun b o v h => he.Fnew b o v (hff b h), fun b h => by simp [γ', h.2.2, he.own b (hff b h)], he.sh⟩
  · exact hrep.keep (fun _ _ _ h => h) (fun _ _ h => h) (fun g _ hg => ⟨rfl, fun _ _ h => h, hox g _ hg (by simp)⟩)

theorem cat_getD {va vb : Array Value} {l1 l2 : List AV} (h1 : va.size = l1.length) {p : AV → Value → Prop} (r1 : ∀ (j : Nat) (x : AV), l1[j]? = some x → p x (va.getD j undef)) (r2 : ∀ (j : Nat) (x : AV), l2[j]? = some x → p x (vb.getD j undef)) :
    ∀ (j : Nat) (x : AV), (l1 ++ l2)[j]? = some x → p x ((va ++ vb).getD j undef) := by
  intro j x hx
  by_cases hj : j < l1.length
  · rw [List.getElem?_append_left hj] at hx
    have := r1 j x hx
    simp only [Array.getD_eq_getD_getElem?] at this ⊢
    rw [Array.getElem?_append_left (by omega)]
    exact this
  · rw [List.getElem?_append_right (by omega)] at hx
    have := r2 _ x hx
    simp only [Array.getD_eq_getD_getElem?] at this ⊢
    rw [Array.getElem?_append_right (by omega), h1]
    exact this

theorem args_getD (hR : R P γ a w s) (hG : GlobOK E γ) {os : Array Operand} {xs : List Opd} (h : allSome (os.toList.map opd) = some xs) :
    (os.map a.eval).size = (xs.map fun x => (Opd.ev E s x).arg).length ∧ ∀ (j : Nat) (x : AV), (xs.map fun x => (Opd.ev E s x).arg)[j]? = some x → x.isOwn = false ∧ RepA P γ w .ret x ((os.map a.eval).getD j undef) := by
  refine ⟨by simp [(opds_get h).1], fun j x hx => ?_⟩
  obtain ⟨k1, o', ho', k2⟩ := args_rep hR hG h .ret j x hx
  rw [map_getD ho']
  exact ⟨k1, k2⟩

theorem run_call {c : Call} {f : Operand} (ho : o.op = .call c) (hc : c.callee = .value f) {k : FuncId} {va vb : Array Value} (hf : a.eval f = .func (.func k) va vb) {w : World} {r : Result Next} (h : (callFunc k ((va ++ c.args.map a.eval) ++ vb)).run P w = r) :
    (execOp a.eval o).run P w = r := by
  simp only [execOp, ho, resolve, hc, Deferred.ofValue, hf, Sem.run_bind, Sem.run_pure, Result.andThen_ok, invoke]
  exact h

theorem wp_call {c : Call} {f : Operand} (ho : o.op = .call c) (hc : c.callee = .value f) {k : FuncId} {va vb : Array Value} (hf : a.eval f = .func (.func k) va vb) {Post : Value → World → Prop} (h : CallOK P k ((va ++ c.args.map a.eval) ++ vb) w Post)
    {K : Act → World → Prop} {Q : Exit → Act → World → Prop} (hK : ∀ v w', Post v w' → K (a.put o.dst v) w') : o.wp P a w K Q := by
  unfold Oper.wp
  rcases h with ⟨v, w', h1, h2⟩ | ⟨g, as, h1, h2⟩
  · rw [run_call ho hc hf h1]
    exact hK v w' h2
  · rw [run_call ho hc hf h1]
    simp only [Oper.upon]
    refine h2.mono ?_
    rintro e w' ⟨v, rfl, hp⟩
    exact hK v w' hp

theorem wp_done {o : Oper} {av : AV} {s1 : St} (h : Done P γ a w o av s1) {K : Act → World → Prop} {Q : Exit → Act → World → Prop} (hK : ∀ γ' v w', Ext γ w γ' w' → R P γ' (a.put o.dst v) w' (s1.put o.dst av) → K (a.put o.dst v) w') : o.wp P a w K Q := by
  obtain ⟨v, w', γ', hr, he, hR, hv⟩ := h
  obtain ⟨γ2, k1, k2, _⟩ := hR.put hv o.dst
  unfold Oper.wp
  rcases hr with hr | ⟨hr, rfl⟩
  · rw [hr]; exact hK γ2 v w' (he.trans k2) k1
  · rw [hr]; exact hK γ2 undef w' (he.trans k2) k1

theorem R.setLz (hR : R P γ a w s) {l : Option (Nat × Loc)} (h : ∀ d ℓ, l = some (d, ℓ) → AtLoc γ a w (a.tmps.getD d undef) ℓ) : R P γ a w { s with lz := l } := ⟨hR.bx, hR.sz, hR.tm, h, hR.dl, hR.df⟩

theorem put_getD_same (a : Act) (d : Nat) (v : Value) (ht : d < a.tmps.size) : (a.put (some d) v).tmps.getD d undef = v := by
  rw [put_getD a d d v ht, if_pos rfl]

theorem cOp_call {ops : Array Oper} {f' : Opd} {args' : List Opd} (hc : cOp P ops o = some (.call f' args')) : ∃ c f, o.op = .call c ∧ c.callee = .value f ∧ opd f = some f' ∧ allSome (c.args.toList.map opd) = some args' := by
  unfold cOp at hc
  split at hc
  case h_22 c ho =>
    split at hc <;> try (simp at hc; done)
    rename_i args hargs
    split at hc
    · rename_i f hcal
      simp only [Option.map_eq_some_iff, AOp.call.injEq] at hc
      obtain ⟨g, hg, rfl, rfl⟩ := hc
      exact ⟨c, f, ho, hcal, hg, hargs⟩
    all_goals (exfalso; repeat' (split at hc)) <;> simp at hc
  all_goals (exfalso; repeat' (split at hc)) <;> simp at hc

theorem cOp_dfr {ops : Array Oper} {f' : Opd} (hc : cOp P ops o = some (.dfr f')) : ∃ c f, o.op = .defer c ∧ c.callee = .value f ∧ opd f = some f' := by
  unfold cOp at hc
  split at hc
  case h_24 c ho =>
    split at hc <;> try (simp at hc; done)
    simp only [Option.map_eq_some_iff, AOp.dfr.injEq] at hc
    obtain ⟨g, hg, rfl⟩ := hc
    exact ⟨c, _, ho, by assumption, hg⟩
  all_goals (exfalso; repeat' (split at hc)) <;> simp at hc

/-- One operation that is carried out. -/
theorem step_ok (hP : PureOK P E) (hC : CfOK P E cf) (hR : R P γ a w s) (hG : GlobOK E γ) {ops : Array Oper} {so : SOp} (hc : cOper P ops o = some so) {s' : St} (h : stepOp E cf q so s = some s')
    {K : Act → World → Prop} {Q : Exit → Act → World → Prop} (hK : ∀ γ' a' w', Ext γ w γ' w' → R P γ' a' w' s' → K a' w') : o.wp P a w K Q := by
  simp only [cOper, Option.some.injEq] at hc
  subst hc
  simp only [stepOp] at h
  split at h <;> try (simp at h; done)
  rename_i av s1 hst
  cases hco : cOp P ops o with
  | none => rw [hco] at hst; simp [stepV] at hst
  | some op =>
  have hc := hco
  rw [hco] at hst h
  simp only [Option.getD_some] at hst h
  by_cases hcall : ∃ f args, op = .call f args
  · obtain ⟨f', args', rfl⟩ := hcall
    simp only [lazyAfter, Option.some.injEq] at h
    subst h
    have hcc := cOp_call hc
    obtain ⟨c, f, ho, hcal, hf, hargs⟩ := hcc
    simp only [stepV] at hst
    split at hst <;> try (simp at hst; done)
    rename_i k first cap htar
    split at hst <;> simp only [Option.some.injEq, Prod.mk.injEq, reduceCtorEq] at hst
    rename_i r bx hdo
    obtain ⟨rfl, rfl⟩ := hst
    obtain ⟨va, vb, hfe, hva, hvb, r1, r2⟩ := target_rep (ev_rep hR hG hf) htar
    obtain ⟨hsz, hrep⟩ := args_getD hR hG hargs
    have hall := cat_getD (p := fun x v => x.isOwn = false ∧ RepA P γ w .ret x v) (va := va ++ c.args.map a.eval) (by simp only [Array.size_append, List.length_append]; rw [hva, hsz]) (cat_getD (p := fun x v => x.isOwn = false ∧ RepA P γ w .ret x v) hva r1 hrep) r2
    have hsz2 : ((va ++ c.args.map a.eval) ++ vb).size = (first ++ (args'.map fun x => (x.ev E s).arg) ++ cap).length := by
      simp only [Array.size_append, List.length_append]; rw [hva, hsz, hvb]
    unfold doCall at hdo
    split at hdo
    · rename_i F hF
      split at hdo <;> try (simp at hdo; done)
      rename_i vs hvs
      split at hdo <;> simp only [Option.some.injEq, Prod.mk.injEq, reduceCtorEq] at hdo
      rename_i r' hr'
      obtain ⟨rfl, rfl⟩ := hdo
      refine wp_call ho hcal hfe (pure_call hP hG hR.bx hF hvs hr' hsz2 hall) ?_
      rintro v w' ⟨γ1, hfr, hv⟩
      obtain ⟨γ2, k1, k2, _⟩ := (hfr.R hR).put hv o.dst
      refine hK γ2 _ w' (hfr.ext.trans k2) ?_
      have : (if q = true then s else { s with bx := s.bx, lz := if (E.pure k).isSome then s.lz else none }) = s := by
        rw [hF]; simp
      rw [this]; exact k1
    · rename_i hpn
      split at hdo
      · rename_i hq
        unfold doLook at hdo
        split at hdo <;> try (simp at hdo; done)
        rename_i k' hk
        split at hdo <;> try (simp at hdo; done)
        rename_i i hargs'
        split at hdo <;> try (simp at hdo; done)
        rename_i cs hbi
        split at hdo <;> simp only [Option.some.injEq, Prod.mk.injEq, reduceCtorEq] at hdo
        rename_i v hcv
        obtain ⟨rfl, rfl⟩ := hdo
        have hp0 := hall 0 (.ptr i 0) (by rw [hargs']; rfl)
        rw [hargs'] at hsz2
        have hp1 := hp0.2
        generalize hgd : ((va ++ c.args.map a.eval) ++ vb).getD 0 undef = pv at hp1
        cases hp1 with
        | ptr _ _ blk hblk =>
          have hB := hR.bx.box i _ blk hbi hblk
          obtain ⟨arr, t, m, q1, ⟨q2, _⟩, q3, q4⟩ := hB
          have hkl : k' < cs.length := (List.getElem?_eq_some_iff.1 hcv).1
          have hC1 := q3 k' _ hcv
          have hcell : w.cell? ⟨blk, k', none⟩ = some (arr.getD k' undef) := by
            rw [cell_of_row w blk k' arr t m q1]
            simp [Array.getD_eq_getD_getElem?, Array.getElem?_eq_getElem (show k' < arr.size by omega)]
          refine wp_call ho hcal hfe (hP.2 k k' hk blk w _ hcell _ hsz2 hgd) ?_
          rintro v' w' ⟨rfl, rfl⟩
          obtain ⟨γ2, k1, k2, _⟩ := hR.put (RepA.sv .ret v _ hC1.2) o.dst
          refine hK γ2 _ _ k2 ?_
          rw [if_pos hq]; exact k1
      rename_i hq
      refine wp_call ho hcal hfe (cf_call hC hG hR hdo hsz2 hall) ?_
      rintro v w' ⟨γ1, h1, h2, hv⟩
      obtain ⟨γ2, k1, k2, _⟩ := h1.put hv o.dst
      refine hK γ2 _ w' (h2.trans k2) ?_
      rw [hpn]
      simpa [hq] using k1
  · by_cases hd : ∃ f, op = .dfr f
    · obtain ⟨f', rfl⟩ := hd
      simp only [lazyAfter, Option.some.injEq] at h
      subst h
      have hcc := cOp_dfr hc
      obtain ⟨c, f, ho, hcal, hf⟩ := hcc
      simp only [stepV] at hst
      split at hst <;> try (simp at hst; done)
      split at hst <;> simp only [Option.some.injEq, Prod.mk.injEq, reduceCtorEq] at hst
      rename_i k first cap htar
      obtain ⟨rfl, rfl⟩ := hst
      obtain ⟨va, vb, hfe, _⟩ := target_rep (ev_rep hR hG hf) htar
      unfold Oper.wp
      have hrun : (execOp a.eval o).run P w = .ok (.defer { target := .fn (.func k) vb, args := va ++ c.args.map a.eval }) w := by
        simp only [execOp, ho, resolve, hcal, Deferred.ofValue, hfe, Sem.run_bind, Sem.run_pure, Result.andThen_ok]
      rw [hrun]
      simp only [Oper.upon]
      have hR2 : R P γ { a with defers := { target := .fn (.func k) vb, args := va ++ c.args.map a.eval } :: a.defers } w { s with df := k :: s.df } := by
        refine ⟨hR.bx, hR.sz, hR.tm, hR.lz, by simp [hR.dl], fun i d c' hd hc' => ?_⟩
        cases i with
        | zero =>
          simp only [List.getElem?_cons_zero, Option.some.injEq] at hd hc'
          subst hd; subst hc'
          exact ⟨vb, rfl⟩
        | succ i => exact hR.df i d c' (by simpa using hd) (by simpa using hc')
      obtain ⟨γ2, k1, k2, _⟩ := hR2.put (av := .sv .undef) (v := undef) (.sv _ _ _ (.undef _)) o.dst
      exact hK γ2 _ w k2 k1
    · have hdone := done_of hR hG hc (fun f args e => hcall ⟨f, args, e⟩) (fun f e => hd ⟨f, e⟩) hst
      split at h
      · rename_i l hlaz
        simp only [Option.some.injEq] at h
        subst h
        unfold lazyAfter at hlaz
        split at hlaz
        · rename_i t
          obtain ⟨ho, d, hdst⟩ : o.op = .move (.tmp t) ∧ ∃ d, o.dst = some d := by
            constructor
            · unfold cOp at hc
              split at hc
              · rename_i x ho
                split at hc
                · simp only [Option.some.injEq, AOp.movL.injEq] at hc; subst hc; exact ho
                · simp only [Option.map_eq_some_iff, reduceCtorEq, and_false, exists_false] at hc
              all_goals (exfalso; repeat' (split at hc)) <;> simp at hc
            · simp only [stepV] at hst
              split at hst
              · exact ⟨_, by assumption⟩
              · simp at hst
          have hst' := hst
          simp only [stepV, hdst, Option.some.injEq, Prod.mk.injEq] at hst'
          obtain ⟨rfl, rfl⟩ := hst'
          unfold Oper.wp
          have hrun : (execOp a.eval o).run P w = .ok (.value (a.tmps.getD t undef)) w := by simp only [execOp, ho]; rfl
          rw [hrun]
          simp only [Oper.upon]
          have hv : RepA P γ w .ret (s.rd t).copy (a.tmps.getD t undef) := (ev_rep hR hG (show opd (.tmp t) = some (.t t) from rfl)).copy .ret
          obtain ⟨γ2, k1, k2, _⟩ := hR.put hv o.dst
          refine hK γ2 _ w k2 (k1.setLz ?_)
          intro d' ℓ hl
          simp only [hdst] at hlaz
          split at hlaz <;> simp only [Option.some.injEq] at hlaz <;> subst hlaz
          · simp at hl
          · rename_i hne
            simp only [Option.some.injEq, Prod.mk.injEq] at hl
            obtain ⟨rfl, rfl⟩ := hl
            show (a.put o.dst _).tmps.getD t undef = (a.put o.dst _).tmps.getD d undef
            rw [hdst, put_getD_ne a d t _ (by omega), put_getD_same a d _ (by rw [hR.sz]; omega)]
        · rename_i p'
          obtain ⟨t, p, ho, hn, hp⟩ : ∃ t p, o.op = .load t p ∧ aggN P t = some none ∧ opd p = some p' := by
            unfold cOp at hc
            split at hc
            case h_4 t p ho =>
              split at hc
              · split at hc
                · simp only [Option.some.injEq, AOp.loadL.injEq] at hc; subst hc; exact ⟨t, p, ho, by assumption, by assumption⟩
                · simp at hc
              · simp at hc
              · simp at hc
            all_goals (exfalso; repeat' (split at hc)) <;> simp at hc
          have hst' := hst
          simp only [stepV] at hst'
          split at hst' <;> try (simp at hst'; done)
          rename_i cs hcs
          split at hst' <;> try (simp at hst'; done)
          rename_i v hvv
          simp only [Option.some.injEq, Prod.mk.injEq] at hst'
          obtain ⟨rfl, rfl⟩ := hst'
          have hpr := ev_rep hR hG hp
          obtain ⟨b, off, vs, hu, hcc⟩ := cellsAt_rep hR.bx hpr hcs
          obtain ⟨h1, i, hi, h2⟩ := run_isAgg (P := P) (w := w) hn
          obtain ⟨x, rest, rfl, rfl⟩ : ∃ x rest, cs = x :: rest ∧ x = v := by
            simp only [takeN] at hvv
            split at hvv <;> simp only [Option.some.injEq, reduceCtorEq] at hvv
            subst hvv; exact ⟨_, _, rfl, rfl⟩
          obtain ⟨g1, g2, g3⟩ := hcc 0 x rfl
          rw [Nat.add_zero] at g2
          have hrun : (execOp a.eval o).run P w = .ok (.value (vs 0)) w := by
            simp only [execOp, ho, hu]
            simp [Instr.loadAt, Instr.sureAddr, loadVar, h1, g2]
          unfold Oper.wp
          rw [hrun]
          simp only [Oper.upon]
          obtain ⟨γ2, k1, k2, _⟩ := hR.put (av := .sv x) (v := vs 0) (.sv _ _ _ g3) o.dst
          refine hK γ2 _ w k2 (k1.setLz ?_)
          intro d' ℓ hl
          split at hlaz
          · rename_i d i' off' hdst hpe
            split at hlaz <;> simp only [Option.some.injEq] at hlaz <;> subst hlaz
            · simp at hl
            · rename_i hne
              simp only [Option.some.injEq, Prod.mk.injEq] at hl
              obtain ⟨rfl, rfl⟩ := hl
              rw [hpe] at hpr
              rw [hu] at hpr
              cases hpr with
              | ptr _ _ _ hblk =>
                obtain ⟨l', hl', _⟩ := k2.β
                refine ⟨b, ?_, ?_⟩
                · rw [hl', List.getElem?_append_left (List.getElem?_eq_some_iff.1 hblk).1]; exact hblk
                · rw [hdst, put_getD_same a d _ (by rw [hR.sz]; omega)]; exact g2
          · simp only [Option.some.injEq] at hlaz; subst hlaz; simp at hl
        · simp at hlaz
      · simp only [Option.some.injEq] at h
        subst h
        exact wp_done hdone (fun γ' v w' he hR' => hK γ' _ w' he hR')

end Go.Ev

set_option linter.unusedSimpArgs false
set_option linter.unusedVariables false
namespace Go.Ev
variable {P : Program} {E : Env} {γ : Gh} {a : Act} {w : World} {s : St} {cf : CallF} {q : Bool} {s1 : St} {av : AV}

theorem all_get {ops : Array Oper} {l : List SOp} (h : allSome (ops.toList.map (cOper P ops)) = some l) : l.length = ops.size ∧ ∀ (i : Nat) (o : Oper), ops[i]? = some o → ∃ so, l[i]? = some so ∧ cOper P ops o = some so := by
  obtain ⟨h1, h2⟩ := allSome_spec h
  have hlen : l.length = ops.size := by simpa using h1
  refine ⟨hlen, fun i o hi => ?_⟩
  have hlt : i < l.length := by rw [hlen]; exact (Array.getElem?_eq_some_iff.1 hi).1
  refine ⟨l[i], by simp [hlt], ?_⟩
  have h3 := h2 i l[i] (by simp [hlt])
  rw [List.getElem?_map, Array.getElem?_toList, hi] at h3
  simpa using h3

theorem cOper_eq {ops : Array Oper} {o : Oper} {so : SOp} (h : cOper P ops o = some so) : so.dst = o.dst ∧ so.guard = o.guard := by
  simp only [cOper, Option.some.injEq] at h
  subst h
  exact ⟨rfl, rfl⟩

theorem wants_ok (hR : R P γ a w s) {ops : Array Oper} {l : List SOp} (hl : allSome (ops.toList.map (cOper P ops)) = some l) {o : Oper} {so : SOp} (hc : cOper P ops o = some so) {b : Bool} (h : wants l s so = some b) :
    Region.wanted o (yielded ops a.tmps) = b := by
  obtain ⟨_, hg⟩ := cOper_eq hc
  unfold wants at h
  rw [hg] at h
  unfold Region.wanted
  cases hgd : o.guard with
  | none => rw [hgd] at h; simpa using h
  | some gw =>
    obtain ⟨j, want⟩ := gw
    rw [hgd] at h
    simp only at h
    split at h <;> try (simp at h; done)
    rename_i g hj
    split at h <;> try (simp at h; done)
    rename_i d hd
    have hjl : j < ops.size := by rw [← (all_get hl).1]; exact (List.getElem?_eq_some_iff.1 hj).1
    obtain ⟨so', h1, h2⟩ := (all_get hl).2 j ops[j] (by simp [hjl])
    rw [hj] at h1
    obtain rfl := Option.some.inj h1
    obtain ⟨hd', _⟩ := cOper_eq h2
    have hdst : ((ops[j]?).bind (·.dst)) = some d := by rw [Array.getElem?_eq_getElem hjl]; simp [← hd', hd]
    split at h <;> try (simp at h; done)
    rotate_left
    · rename_i hrd
      have hlt : d < s.tm.length := by
        refine Decidable.byContradiction fun hn => ?_
        simp only [St.rd, List.getD_eq_getElem?_getD] at hrd
        rw [List.getElem?_eq_none (by omega)] at hrd
        simp at hrd
      have hv := hR.tm d hlt
      rw [hrd] at hv
      have hva : a.tmps.getD d undef = undef := by
        have := hv.sv_inv
        generalize a.tmps.getD d undef = u at this
        cases this; rfl
      have hsz : d < a.tmps.size := by rw [hR.sz]; exact hlt
      have hy : yielded ops a.tmps j = none := by
        unfold yielded
        rw [hdst]
        simp only [Option.bind_some, Array.getElem?_eq_getElem hsz]
        rw [Array.getD_eq_getD_getElem?, Array.getElem?_eq_getElem hsz] at hva
        simp only [Option.getD_some] at hva
        rw [hva]
        rfl
      simp only [Option.some.injEq] at h
      simp only [hy]
      rw [← h]
      rfl
    rename_i c hrd
    have hlt : d < s.tm.length := by
      refine Decidable.byContradiction fun hn => ?_
      simp only [St.rd, List.getD_eq_getElem?_getD] at hrd
      rw [List.getElem?_eq_none (by omega)] at hrd
      simp at hrd
    have hv := hR.tm d hlt
    rw [hrd] at hv
    have hva : a.tmps.getD d undef = .bool c := by
      have := hv.sv_inv
      generalize a.tmps.getD d undef = u at this
      cases this; rfl
    have hsz : d < a.tmps.size := by rw [hR.sz]; exact hlt
    have hy : yielded ops a.tmps j = some c := by
      unfold yielded
      rw [hdst]
      simp only [Option.bind_some, Array.getElem?_eq_getElem hsz]
      rw [Array.getD_eq_getD_getElem?, Array.getElem?_eq_getElem hsz] at hva
      simp only [Option.getD_some] at hva
      rw [hva]
    simp only [Option.some.injEq] at h
    simp only [hy]
    rw [← h]
    cases c <;> cases want <;> rfl

theorem R.settle (hR : R P γ a w s) : ∃ γ', R P γ' a w s.settle ∧ Ext γ w γ' w := by
  unfold St.settle
  split
  · rename_i d u hlz
    split
    · rename_i e xs hrd
      have hat : a.tmps.getD u undef = a.tmps.getD d undef := hR.lz d (.tmp u) hlz
      obtain ⟨r1, r2⟩ := hR.disown (own_lt hrd)
      rw [hrd, hat] at r2
      obtain ⟨γ', k1, k2, _⟩ := r1.put r2 (some d)
      have hput : a.put (some d) (a.tmps.getD d undef) = a := by
        have : a.tmps.setIfInBounds d (a.tmps.getD d undef) = a.tmps := by
          apply Array.ext
          · simp
          · intro i h1 h2
            rw [Array.getElem_setIfInBounds]
            split
            · rename_i e'; subst e'; simp [Array.getD_eq_getD_getElem?, h2]
            · rfl
        simp only [Act.put, this]
      rw [hput] at k1
      exact ⟨γ', k1.noLz, (Gh.mv_ext _ _ _ _).trans k2⟩
    · exact ⟨γ, hR, Ext.refl _ _⟩
  · exact ⟨γ, hR, Ext.refl _ _⟩

theorem R.sinkArg (hR : R P γ a w s) (x : Opd) : ∃ γ', R P γ' a w (s.sinkArg x) ∧ Ext γ w γ' w := by
  unfold St.sinkArg
  split
  · rename_i t
    split
    · rename_i i n k e hrd
      split
      · rename_i y s' hsk
        have htl : t < s.tm.length := by
          refine Decidable.byContradiction fun hn => ?_
          simp only [St.rd, List.getD_eq_getElem?_getD] at hrd
          rw [List.getElem?_eq_none (by omega)] at hrd
          simp at hrd
        have hv := hR.tm t htl
        rw [hrd] at hv
        obtain ⟨γ', g1, g2, g3, g4, g5, g6, g7⟩ := sink_ok hR hv hsk
        refine ⟨γ', ⟨g1.bx, g1.sz.trans (by simp), fun t' ht' => ?_, g1.lz, g1.dl, g1.df⟩, g2⟩
        have ht2 : t' < s'.tm.length := by simpa using ht'
        have := g1.tm t' ht2
        simp only [St.rd, List.getD_eq_getElem?_getD, List.getElem?_set] at this ⊢
        by_cases e1 : t = t'
        · subst e1
          rw [if_pos rfl, if_pos ht2]
          exact .sv _ _ _ g3
        · rw [if_neg e1]; exact this
      · exact ⟨γ, hR, Ext.refl _ _⟩
    · rename_i i n e hrd
      split
      · rename_i y s' hsk
        have htl : t < s.tm.length := by
          refine Decidable.byContradiction fun hn => ?_
          simp only [St.rd, List.getD_eq_getElem?_getD] at hrd
          rw [List.getElem?_eq_none (by omega)] at hrd
          simp at hrd
        have hv := hR.tm t htl
        rw [hrd] at hv
        obtain ⟨γ', g1, g2, g3, g4, g5, g6, g7⟩ := sink_ok hR hv hsk
        refine ⟨γ', ⟨g1.bx, g1.sz.trans (by simp), fun t' ht' => ?_, g1.lz, g1.dl, g1.df⟩, g2⟩
        have ht2 : t' < s'.tm.length := by simpa using ht'
        have := g1.tm t' ht2
        simp only [St.rd, List.getD_eq_getElem?_getD, List.getElem?_set] at this ⊢
        by_cases e1 : t = t'
        · subst e1
          rw [if_pos rfl, if_pos ht2]
          exact .sv _ _ _ g3
        · rw [if_neg e1]; exact this
      · exact ⟨γ, hR, Ext.refl _ _⟩
    · exact ⟨γ, hR, Ext.refl _ _⟩
  · exact ⟨γ, hR, Ext.refl _ _⟩

theorem R.sinkArgs : ∀ (xs : List Opd) (γ : Gh) (s : St), R P γ a w s → ∃ γ', R P γ' a w (s.sinkArgs xs) ∧ Ext γ w γ' w
  | [], γ, s, hR => ⟨γ, hR, Ext.refl _ _⟩
  | x :: xs, γ, s, hR => by
    obtain ⟨γ1, h1, h2⟩ := hR.sinkArg x
    obtain ⟨γ2, h3, h4⟩ := R.sinkArgs xs γ1 _ h1
    exact ⟨γ2, h3, h2.trans h4⟩

theorem R.pre (hR : R P γ a w s) (q : Bool) (op : AOp) : ∃ γ', R P γ' a w (pre q op s) ∧ Ext γ w γ' w := by
  unfold Go.Ev.pre
  split
  · exact hR.settle
  · exact hR.settle
  · split
    · exact ⟨γ, hR, Ext.refl _ _⟩
    · exact R.sinkArgs _ γ s hR
  · exact ⟨γ, hR, Ext.refl _ _⟩

theorem opRun_ok (hP : PureOK P E) (hC : CfOK P E cf) (hR : R P γ a w s) (hG : GlobOK E γ) {ops : Array Oper} {l : List SOp} (hl : allSome (ops.toList.map (cOper P ops)) = some l) {i : Nat} {so : SOp} (hi : l[i]? = some so) {s' : St} (h : opRun E cf q l so s = some s')
    {K : Act → World → Prop} {Q : Exit → Act → World → Prop} (hK : ∀ γ' a' w', Ext γ w γ' w' → R P γ' a' w' s' → K a' w') : wpOp P ops Q i K a w := by
  have hil : i < ops.size := by rw [← (all_get hl).1]; exact (List.getElem?_eq_some_iff.1 hi).1
  obtain ⟨so', h1, hc⟩ := (all_get hl).2 i ops[i] (by simp [hil])
  rw [hi] at h1
  obtain rfl := Option.some.inj h1
  obtain ⟨hdst, _⟩ := cOper_eq hc
  unfold wpOp
  rw [Array.getElem?_eq_getElem hil]
  simp only
  unfold opRun at h
  split at h
  · rename_i hw
    rw [wants_ok hR hl hc hw]
    simp only [if_true]
    obtain ⟨γ1, r1, e1⟩ := hR.pre q so.op
    exact .inl (step_ok hP hC r1 (hG.mono e1.F) hc h (fun γ' a' w' he hR' => hK γ' a' w' (e1.trans he) hR'))
  · rename_i hw
    rw [wants_ok hR hl hc hw]
    simp only [Bool.false_eq_true, if_false]
    simp only [Option.some.injEq] at h
    subst h
    obtain ⟨γ2, k1, k2, _⟩ := hR.put (av := .sv .off) (v := undef) (.sv _ _ _ .off) so.dst
    rw [hdst] at k1
    rw [hdst] at hK
    exact hK γ2 _ w k2 k1
  · simp at h

theorem drop_cons {α : Type} {l : List α} {i : Nat} {x : α} (h : l[i]? = some x) : l.drop i = x :: l.drop (i + 1) := by
  obtain ⟨h1, h2⟩ := List.getElem?_eq_some_iff.1 h
  rw [List.drop_eq_getElem_cons h1, h2]

theorem seq_ok (hP : PureOK P E) (hC : CfOK P E cf) {ops : Array Oper} {l : List SOp} (hl : allSome (ops.toList.map (cOper P ops)) = some l) {Q : Exit → Act → World → Prop} :
    ∀ (n i : Nat) (γ : Gh) (a : Act) (w : World) (s s' : St), i + n = ops.size → R P γ a w s → GlobOK E γ → runOps E cf q l (l.drop i) s = some s' → (∀ γ' a' w', Ext γ w γ' w' → R P γ' a' w' s' → Q .normal a' w') → wpOps P ops Q (List.range' i n) a w
  | 0, i, γ, a, w, s, s', hn, hR, hG, h, hQ => by
    have : l.drop i = [] := List.drop_eq_nil_of_le (by rw [(all_get hl).1]; omega)
    rw [this] at h
    simp only [runOps, Option.some.injEq] at h
    subst h
    exact hQ γ a w (Ext.refl _ _) hR
  | n + 1, i, γ, a, w, s, s', hn, hR, hG, h, hQ => by
    have hil : i < l.length := by rw [(all_get hl).1]; omega
    have hi : l[i]? = some l[i] := by simp [hil]
    rw [drop_cons hi] at h
    simp only [runOps] at h
    split at h <;> try (simp at h; done)
    rename_i s2 hs2
    rw [List.range'_succ, wpOps_cons]
    refine opRun_ok hP hC hR hG hl hi hs2 (fun γ' a' w' he hR' => ?_)
    exact seq_ok hP hC hl n (i + 1) γ' a' w' s2 s' (by omega) hR' (hG.mono he.F) h (fun γ2 a2 w2 he2 hR2 => hQ γ2 a2 w2 (he.trans he2) hR2)

theorem region_seq (hP : PureOK P E) (hC : CfOK P E cf) (hR : R P γ a w s) (hG : GlobOK E γ) {id : Nat} {ops : Array Oper} {l : List SOp} (hl : allSome (ops.toList.map (cOper P ops)) = some l) {s' : St} (h : runOps E cf q l l s = some s')
    {Q : Exit → Act → World → Prop} (hQ : ∀ γ' a' w', Ext γ w γ' w' → R P γ' a' w' s' → Q .normal a' w') : (Code.region id ops false).wp P Q a w := by
  refine wp_region ?_
  rw [List.range_eq_range']
  exact seq_ok hP hC hl ops.size 0 γ a w s s' (by omega) hR hG (by simpa using h) hQ

end Go.Ev

set_option linter.unusedSimpArgs false
set_option linter.unusedVariables false
namespace Go.Ev
variable {E : Env} {cf : CallF} {dst : Option Nat}

theorem ev_local {s s' : St} {x : Opd} (h : ∀ t ∈ x.reads, s'.rd t = s.rd t) : x.ev E s' = x.ev E s := by
  cases x with
  | t n => exact h n (by simp [Opd.reads])
  | c v => rfl
  | g n => rfl

theorem sink_same {s s' : St} {v : AV} : (∀ p, sinkQ true s v = some p → p.2 = s) ∧ sinkQ true s' v = (sinkQ true s v).map fun p => (p.1, s') := by
  cases v with
  | sv v => cases v <;> simp [sinkQ, sink] <;> (rintro a b rfl rfl; rfl)
  | own e xs => simp [sinkQ, sink]
  | ptr i off => simp [sinkQ]
  | mrow i n e => simp [sinkQ]
  | grw i n k e => simp [sinkQ]
  | clo f a b => simp [sinkQ, sink]

theorem sinks_same {s s' : St} : ∀ (xs : List Opd), (∀ x ∈ xs, x.ev E s' = x.ev E s) → (∀ p, sinks E true s xs = some p → p.2 = s) ∧ sinks E true s' xs = (sinks E true s xs).map fun p => (p.1, s')
  | [], _ => by simp [sinks]
  | x :: xs, h => by
    obtain ⟨h1, h2⟩ := sink_same (s := s) (s' := s') (v := x.ev E s)
    obtain ⟨k1, k2⟩ := sinks_same xs (fun y hy => h y (by simp [hy]))
    have hx := h x (by simp)
    simp only [sinks, hx, h2]
    cases hs : sinkQ true s (x.ev E s) with
    | none => simp
    | some p =>
      obtain ⟨v, s2⟩ := p
      have := h1 _ hs
      simp only at this
      subst this
      simp only [Option.map_some, k2]
      cases hss : sinks E true s2 xs with
      | none => simp
      | some p2 =>
        obtain ⟨vs, s3⟩ := p2
        have := k1 _ hss
        simp only at this
        subst this
        simp

theorem map_local {s s' : St} {xs : List Opd} (h : ∀ x ∈ xs, x.ev E s' = x.ev E s) : (xs.map fun x => (Opd.ev E s' x).arg) = xs.map fun x => (Opd.ev E s x).arg :=
  List.map_congr_left fun x hx => by rw [h x hx]

theorem mapOpt_congr {α β : Type} {f g : α → Option β} : ∀ {xs : List α}, (∀ x ∈ xs, f x = g x) → mapOpt f xs = mapOpt g xs
  | [], _ => rfl
  | x :: xs, h => by
    simp only [mapOpt]
    rw [h x (by simp), mapOpt_congr (fun y hy => h y (by simp [hy]))]

theorem optInt_local {s s' : St} {x : Option Opd} {d : Int} (h : ∀ t ∈ (x.map Opd.reads).getD [], s'.rd t = s.rd t) : optInt E s' x d = optInt E s x d := by
  cases x with
  | none => rfl
  | some o => simp only [optInt]; rw [ev_local (by simpa using h)]

theorem cellsAt_local {s s' : St} (hbx : s'.bx = s.bx) (v : AV) : cellsAt s' v = cellsAt s v := by
  unfold cellsAt
  rw [hbx]

theorem linkAt_local {s s' : St} (hbx : s'.bx = s.bx) (n : Option Nat) (v : AV) : linkAt s' n v = linkAt s n v := by
  unfold linkAt
  rw [hbx]

theorem tidyAt_q (s : St) (n : Option Nat) (v : AV) : tidyAt true s n v = s := by simp [tidyAt]

theorem doAppQ_same {s s1 : St} {e k b : Nat} {d : Option Nat} {x y : Opd} {av : AV} (h : doAppQ E s e k b d x y = some (av, s1)) : s1 = s.forgetO (AOp.app e k b d x y).kills := by
  unfold doAppQ at h
  split at h <;> try (simp at h; done)
  split at h <;> try (simp at h; done)
  split at h <;> simp only [Option.some.injEq, Prod.mk.injEq, reduceCtorEq] at h
  exact h.2.symm

theorem doApp_local {s s' : St} {e k b t : Nat} {y : Opd} (hz : s.lz = none) (hz' : s'.lz = none) (ht : s'.rd t = s.rd t) (hy : y.ev E s' = y.ev E s) :
    (doApp E s' e k b (some t) (.t t) y).map (·.1) = (doApp E s e k b (some t) (.t t) y).map (·.1) := by
  unfold doApp appBase
  simp only [hz, hz', hy]
  cases (y.ev E s).elems with
  | none => rfl
  | some new =>
    simp only [ht]
    generalize s.rd t = v
    cases v with
    | own e' ys => simp only; split <;> rfl
    | sv v => cases v <;> simp only <;> (repeat' split) <;> simp_all
    | _ => rfl

theorem doAppQ_local {s s' : St} {e k b : Nat} {d : Option Nat} {x y : Opd} (hz : s.lz = s'.lz) (hr : ∀ t ∈ x.reads ++ y.reads, s'.rd t = s.rd t) :
    doAppQ E s' e k b d x y = (doAppQ E s e k b d x y).map fun p => (p.1, s'.forgetO (AOp.app e k b d x y).kills) := by
  cases x with
  | t t =>
    have ht : s'.rd t = s.rd t := hr t (by simp [Opd.reads])
    have hy : y.ev E s' = y.ev E s := ev_local (fun u hu => hr u (by simp [hu]))
    unfold doAppQ
    simp only [ht, ← hz]
    by_cases hc : d = some t ∧ s.lz = none ∧ (s.rd t).isOwn = true
    · rw [if_pos hc, if_pos hc]
      obtain ⟨rfl, h2, _⟩ := hc
      have := doApp_local (E := E) (e := e) (k := k) (b := b) h2 (hz ▸ h2) ht hy
      cases h1 : doApp E s e k b (some t) (.t t) y with
      | none => rw [h1] at this; simp only [Option.map_none, Option.map_eq_none_iff] at this; rw [this]; rfl
      | some p =>
        rw [h1] at this
        simp only [Option.map_some, Option.map_eq_some_iff] at this
        obtain ⟨p2, g1, g2⟩ := this
        rw [g1]
        obtain ⟨p21, p22⟩ := p2
        obtain ⟨p1, p12⟩ := p
        simp only at g2
        subst g2
        rfl
    · rw [if_neg hc, if_neg hc]; rfl
  | c v => rfl
  | g n => rfl

theorem stepV_same {s s1 : St} {op : AOp} {av : AV} (hh : headOp op = true) (h : stepV E cf true dst s op = some (av, s1)) : s1 = s.forgetO op.kills := by
  have hS := @sinks_same E s s
  have hs1 := @sink_same s s
  cases op <;> simp only [headOp, Bool.false_eq_true] at hh <;> simp only [stepV, if_true, tidyAt_q] at h
  case build z parts =>
    split at h <;> try (simp at h; done)
    rename_i vs s2 hvs
    have := (hS _ (fun _ _ => rfl)).1 _ hvs
    split at h <;> simp only [Option.some.injEq, Prod.mk.injEq, reduceCtorEq] at h
    rw [← h.2]; exact this
  case mkSl e k parts =>
    split at h <;> try (simp at h; done)
    rename_i vs s2 hvs
    have := (hS _ (fun _ _ => rfl)).1 _ hvs
    split at h <;> simp only [Option.some.injEq, Prod.mk.injEq, reduceCtorEq] at h
    rw [← h.2]; exact this
  case mkI t x =>
    split at h <;> simp only [Option.some.injEq, Prod.mk.injEq, reduceCtorEq] at h
    rename_i v s2 hv
    have := hs1.1 _ hv
    rw [← h.2]; exact this
  case app e k b d x y => exact doAppQ_same h
  case s2r x =>
    split at h <;> try (simp at h; done)
    simp only [Bool.true_or, if_true, Option.some.injEq, Prod.mk.injEq] at h
    exact h.2.symm
  case b2s x =>
    split at h <;> try (simp at h; done)
    rename_i xs s2 hv
    have := hs1.1 _ hv
    split at h <;> simp only [Option.some.injEq, Prod.mk.injEq, reduceCtorEq] at h
    rw [← h.2]; exact this
  all_goals
    repeat' split at h
    all_goals first
      | (simp only [Option.some.injEq, Prod.mk.injEq] at h; exact h.2.symm)
      | (simp at h; done)

theorem stepV_local {s s' : St} {op : AOp} (hz : s.lz = s'.lz ∨ op.kills = none) (hbx : noBx op = false → s'.bx = s.bx) (hr : ∀ t ∈ op.reads, s'.rd t = s.rd t) (hh : headOp op = true) : stepV E cf true dst s' op = (stepV E cf true dst s op).map fun p => (p.1, s'.forgetO op.kills) := by
  have hS := @sinks_same E s s'
  cases op <;> simp only [headOp, Bool.false_eq_true] at hh <;> simp only [AOp.reads] at hr
  all_goals simp only [stepV, if_true, tidyAt_q]
  case app e k b d x y =>
    rcases hz with hz | hz
    · exact doAppQ_local hz hr
    · cases x with
      | t t => simp [AOp.kills] at hz
      | c v => rfl
      | g n => rfl
  all_goals simp only [AOp.kills, St.forgetO]
  case mov x => rw [ev_local hr]; rfl
  case movL t => rw [hr t (by simp)]; cases dst <;> rfl
  case pick c x y =>
    rw [ev_local (x := c) (fun t ht => hr t (by simp [ht])), ev_local (x := x) (fun t ht => hr t (by simp [ht])), ev_local (x := y) (fun t ht => hr t (by simp [ht]))]
    cases (c.ev E s).bool? <;> rfl
  case load n p => rw [ev_local hr, linkAt_local (hbx rfl), cellsAt_local (hbx rfl)]; (repeat' split) <;> simp_all
  case loadL p => rw [ev_local hr, cellsAt_local (hbx rfl)]; (repeat' split) <;> simp_all
  case build z parts =>
    obtain ⟨k1, k2⟩ := hS (parts.map (·.2.2)) (fun x hx => ev_local (fun t ht => hr t (by
      obtain ⟨p, hp, rfl⟩ := List.mem_map.1 hx
      exact List.mem_flatMap.2 ⟨p, hp, ht⟩)))
    rw [k2]
    cases hss : sinks E true s (parts.map (·.2.2)) with
    | none => rfl
    | some p =>
      have hkn : (parts.map fun p => p.2.2.ev E s') = parts.map fun p => p.2.2.ev E s := List.map_congr_left fun p hp => ev_local (fun t ht => hr t (List.mem_flatMap.2 ⟨p, hp, ht⟩))
      rw [hkn]
      simp only [Option.map_some]
      cases fillS z ((parts.zip (keepNil (parts.map fun p => p.2.2.ev E s) p.1)).map fun p => (p.1.1, p.1.2.1, p.2)) <;> rfl
  case mkSl e k parts =>
    obtain ⟨k1, k2⟩ := hS parts (fun x hx => ev_local (fun t ht => hr t (List.mem_flatMap.2 ⟨x, hx, ht⟩)))
    rw [k2]
    cases hss : sinks E true s parts with
    | none => rfl
    | some p =>
      show (if uni k p.1 = true then some (mkSlA true e p.1, s') else none) = Option.map (fun p => (p.1, s')) (if uni k p.1 = true then some (mkSlA true e p.1, p.2) else none)
      split <;> rfl
  case b2s x =>
    rw [ev_local hr, (sink_same (s := s) (s' := s')).2]
    cases hss : sinkQ true s (x.ev E s) with
    | none => rfl
    | some p =>
      obtain ⟨v, s2⟩ := p
      cases v <;> simp only [Option.map_some] <;> try rfl
      split <;> rfl
  case mkI t x =>
    rw [ev_local hr, (sink_same (s := s) (s' := s')).2]
    cases hss : sinkQ true s (x.ev E s) <;> rfl
  case mkF f a b =>
    have ha : ∀ x ∈ a, x.ev E s' = x.ev E s := fun x hx => ev_local (fun t ht => hr t (List.mem_append.2 (.inl (List.mem_flatMap.2 ⟨x, hx, ht⟩))))
    have hb : ∀ x ∈ b, x.ev E s' = x.ev E s := fun x hx => ev_local (fun t ht => hr t (List.mem_append.2 (.inr (List.mem_flatMap.2 ⟨x, hx, ht⟩))))
    rw [map_local ha, map_local hb, mapOpt_congr (fun x hx => by rw [ha x hx]), mapOpt_congr (xs := b) (fun x hx => by rw [hb x hx])]
    split <;> rfl
  case subS x lo hi =>
    rw [ev_local (x := x) (fun t ht => hr t (by simp [ht]))]
    simp only [optInt_local (x := lo) (s := s) (s' := s') (fun t ht => hr t (by simp only [List.mem_append]; exact .inl (.inr ht))), optInt_local (x := hi) (s := s) (s' := s') (fun t ht => hr t (by simp only [List.mem_append]; exact .inr ht))]
    (repeat' split) <;> simp_all
  case subL e x lo hi =>
    rw [ev_local (x := x) (fun t ht => hr t (by simp [ht]))]
    simp only [optInt_local (x := lo) (s := s) (s' := s') (fun t ht => hr t (by simp only [List.mem_append]; exact .inl (.inr ht))), optInt_local (x := hi) (s := s) (s' := s') (fun t ht => hr t (by simp only [List.mem_append]; exact .inr ht))]
    (repeat' split) <;> simp_all
  case call f args =>
    rw [ev_local (x := f) (fun t ht => hr t (by simp [ht])), map_local (fun x hx => ev_local (fun t ht => hr t (List.mem_append.2 (.inr (List.mem_flatMap.2 ⟨x, hx, ht⟩))))), hbx rfl]
    (repeat' split) <;> simp_all
  case bin op x y => rw [ev_local (x := x) (fun t ht => hr t (by simp [ht])), ev_local (x := y) (fun t ht => hr t (by simp [ht]))]; (repeat' split) <;> simp_all
  case mm op x y => rw [ev_local (x := x) (fun t ht => hr t (by simp [ht])), ev_local (x := y) (fun t ht => hr t (by simp [ht]))]; (repeat' split) <;> simp_all
  case eqB op x y => rw [ev_local (x := x) (fun t ht => hr t (by simp [ht])), ev_local (x := y) (fun t ht => hr t (by simp [ht]))]; (repeat' split) <;> simp_all
  case iAddrS e x y => rw [ev_local (x := x) (fun t ht => hr t (by simp [ht])), ev_local (x := y) (fun t ht => hr t (by simp [ht]))]; (repeat' split) <;> simp_all
  case iAddrA n e x y => rw [ev_local (x := x) (fun t ht => hr t (by simp [ht])), ev_local (x := y) (fun t ht => hr t (by simp [ht]))]; (repeat' split) <;> simp_all
  case idxS x y => rw [ev_local (x := x) (fun t ht => hr t (by simp [ht])), ev_local (x := y) (fun t ht => hr t (by simp [ht]))]; (repeat' split) <;> simp_all
  case idxA l e n x y => rw [ev_local (x := x) (fun t ht => hr t (by simp [ht])), ev_local (x := y) (fun t ht => hr t (by simp [ht]))]; (repeat' split) <;> simp_all
  case bad => rfl
  all_goals (rw [ev_local hr]; (repeat' split) <;> simp_all)

theorem cellsAt_ext {s s' : St} {e : List Box} (hbx : s'.bx = s.bx ++ e) {v : AV} {cs : List SV} (h : cellsAt s v = some cs) : cellsAt s' v = some cs := by
  unfold cellsAt at h ⊢
  cases v with
  | ptr i off =>
    simp only at h ⊢
    rw [hbx]
    cases hi : s.bx[i]? with
    | none => rw [hi] at h; simp at h
    | some b =>
      rw [List.getElem?_append_left (List.getElem?_eq_some_iff.1 hi).1, hi]
      rw [hi] at h
      exact h
  | sv v => cases v <;> exact h
  | _ => exact h

theorem linkAt_ext {s s' : St} {e : List Box} (hbx : s'.bx = s.bx ++ e) {n : Option Nat} {v : AV} (h : (∃ r, linkAt s n v = some r) ∨ ∃ cs, cellsAt s v = some cs) : linkAt s' n v = linkAt s n v := by
  cases v with
  | ptr i off =>
    have hi : i < s.bx.length := by
      refine Decidable.byContradiction fun hn => ?_
      have hz : s.bx[i]? = none := List.getElem?_eq_none (by omega)
      rcases h with ⟨r, h⟩ | ⟨cs, h⟩
      · unfold linkAt at h
        cases n <;> simp [hz] at h
      · unfold cellsAt at h
        simp [hz] at h
    cases n with
    | some k => rfl
    | none =>
      unfold linkAt
      rw [hbx]
      simp only [List.getElem?_append_left hi]
  | _ => unfold linkAt; cases n <;> rfl

theorem doLook_ext {f : Nat} {args : List AV} {bx e : List Box} {r : AV × List Box} (h : doLook E f args bx = some r) : doLook E f args (bx ++ e) = some (r.1, bx ++ e) := by
  unfold doLook at h ⊢
  split at h <;> try (simp at h; done)
  rename_i k hk
  split at h <;> try (simp at h; done)
  rename_i i
  split at h <;> try (simp at h; done)
  rename_i cs hi
  split at h <;> simp only [Option.some.injEq, reduceCtorEq] at h
  rename_i v hv
  subst h
  simp only [List.getElem?_append_left (List.getElem?_eq_some_iff.1 hi).1, hi, hv]

theorem doCall_ext {f : Nat} {args : List AV} {bx e : List Box} {r : AV × List Box} (h : doCall E cf true f args bx = some r) : doCall E cf true f args (bx ++ e) = some (r.1, bx ++ e) := by
  unfold doCall at h ⊢
  split at h
  · split at h <;> try (simp at h; done)
    split at h <;> simp only [Option.some.injEq, reduceCtorEq] at h
    subst h
    simp [*]
  · simp only [if_true] at h ⊢
    exact doLook_ext h

/-- Boxes more behind the others are not seen. -/
theorem stepV_ext {s s' s1 : St} {op : AOp} {av : AV} (hz : s.lz = s'.lz ∨ op.kills = none) {e : List Box} (hbx : s'.bx = s.bx ++ e) (hr : ∀ t ∈ op.reads, s'.rd t = s.rd t) (hh : headOp op = true)
    (h : stepV E cf true dst s op = some (av, s1)) : stepV E cf true dst s' op = some (av, s'.forgetO op.kills) := by
  by_cases hn : noBx op = true
  · rw [stepV_local hz (fun hf => by rw [hn] at hf; simp at hf) hr hh, h]
    rfl
  · cases op <;> simp only [noBx, not_true_eq_false] at hn
    · rename_i n p
      simp only [stepV, tidyAt_q] at h ⊢
      rw [ev_local hr]
      cases hl : linkAt s n (p.ev E s) with
      | some v =>
        rw [hl] at h
        rw [linkAt_ext hbx (.inl ⟨v, hl⟩), hl]
        simp only [Option.some.injEq, Prod.mk.injEq] at h ⊢
        exact ⟨h.1, rfl⟩
      | none =>
      rw [hl] at h
      simp only at h
      split at h <;> try (simp at h; done)
      rename_i cs hcs
      rw [linkAt_ext hbx (.inr ⟨cs, hcs⟩), hl, cellsAt_ext hbx hcs]
      simp only
      split at h <;> simp only [Option.some.injEq, Prod.mk.injEq, reduceCtorEq] at h
      rename_i v hv
      rw [← h.1]; rfl
    · rename_i p
      simp only [stepV] at h ⊢
      rw [ev_local hr]
      split at h <;> try (simp at h; done)
      rename_i cs hcs
      rw [cellsAt_ext hbx hcs]
      simp only
      split at h <;> simp only [Option.some.injEq, Prod.mk.injEq, reduceCtorEq] at h
      rename_i v hv
      rw [← h.1]; rfl
    · rename_i f args
      simp only [AOp.reads] at hr
      simp only [stepV] at h ⊢
      rw [ev_local (x := f) (fun t ht => hr t (by simp [ht])), map_local (fun x hx => ev_local (fun t ht => hr t (List.mem_append.2 (.inr (List.mem_flatMap.2 ⟨x, hx, ht⟩))))), hbx]
      split at h <;> try (simp at h; done)
      rename_i k first cap hk
      split at h <;> simp only [Option.some.injEq, Prod.mk.injEq, reduceCtorEq] at h
      rename_i r bx hcl
      rw [doCall_ext hcl, ← h.1]; rfl

end Go.Ev

set_option linter.unusedSimpArgs false
set_option linter.unusedVariables false
namespace Go.Ev
variable {P : Program} {E : Env} {γ : Gh} {a : Act} {w : World} {s : St} {cf : CallF} {q : Bool} {s1 : St} {av : AV}

/-! ### What must come ahead -/

theorem allBefore_get (l : List Oper) : (allBefore l).length = l.length ∧ ∀ (i : Nat) (o : Oper), l[i]? = some o → (allBefore l).getD i 0 = befores ((allBefore l).take i) o := by
  have key : ∀ (l : List Oper) (acc : List Nat), (l.foldl (fun acc o => acc ++ [befores acc o]) acc).length = acc.length + l.length ∧ (l.foldl (fun acc o => acc ++ [befores acc o]) acc).take acc.length = acc ∧
      ∀ (i : Nat) (o : Oper), l[i]? = some o → (l.foldl (fun acc o => acc ++ [befores acc o]) acc).getD (acc.length + i) 0 = befores ((l.foldl (fun acc o => acc ++ [befores acc o]) acc).take (acc.length + i)) o := by
    intro l
    induction l with
    | nil => intro acc; simp
    | cons o l ih =>
      intro acc
      simp only [List.foldl_cons]
      obtain ⟨h1, h2, h3⟩ := ih (acc ++ [befores acc o])
      generalize hr : l.foldl (fun acc o => acc ++ [befores acc o]) (acc ++ [befores acc o]) = r at h1 h2 h3
      simp only [List.length_append, List.length_singleton] at h1 h2 h3
      have htk : r.take acc.length = acc := by
        have := congrArg (List.take acc.length) h2
        rw [List.take_take, Nat.min_eq_left (by omega), List.take_left] at this
        exact this
      refine ⟨by simp [h1]; omega, htk, fun i o' ho => ?_⟩
      cases i with
      | zero =>
        simp only [List.getElem?_cons_zero, Option.some.injEq] at ho
        subst ho
        have h4 : r[acc.length]? = some (befores acc o) := by
          have := congrArg (fun x => x[acc.length]?) h2
          simp only [List.getElem?_take] at this
          rw [if_pos (by omega)] at this
          rw [this]; simp
        rw [Nat.add_zero, List.getD_eq_getElem?_getD, h4, htk]; rfl
      | succ i =>
        have := h3 i o' (by simpa using ho)
        rw [show acc.length + (i + 1) = acc.length + 1 + i from by omega]
        exact this
  obtain ⟨h1, _, h3⟩ := key l []
  exact ⟨by simpa [allBefore] using h1, fun i o ho => by simpa [allBefore] using h3 i o ho⟩

theorem befores_bit {acc : List Nat} {o : Oper} {j : Nat} (h : (befores acc o).testBit j = true) : ∃ e ∈ o.after, Region.binds .any e = true ∧ (j = e.on ∨ (acc.getD e.on 0).testBit j = true) := by
  unfold befores at h
  rw [← Array.foldl_toList] at h
  have key : ∀ (l : List Edge) (s : Nat), (l.foldl (fun s e => if Region.binds .any e then s ||| 2 ^ e.on ||| acc.getD e.on 0 else s) s).testBit j = true → s.testBit j = true ∨ ∃ e ∈ l, Region.binds .any e = true ∧ (j = e.on ∨ (acc.getD e.on 0).testBit j = true) := by
    intro l
    induction l with
    | nil => intro s h; exact .inl h
    | cons e l ih =>
      intro s h
      simp only [List.foldl_cons] at h
      rcases ih _ h with h1 | ⟨e', h1, h2⟩
      · split at h1
        · rename_i hb
          simp only [Nat.testBit_or, Bool.or_eq_true, Nat.testBit_two_pow, decide_eq_true_eq] at h1
          rcases h1 with (h1 | h1) | h1
          · exact .inl h1
          · exact .inr ⟨e, by simp, hb, .inl h1.symm⟩
          · exact .inr ⟨e, by simp, hb, .inr h1⟩
        · exact .inl h1
      · exact .inr ⟨e', by simp [h1], h2⟩
  rcases key _ _ h with h1 | ⟨e, h1, h2⟩
  · simp at h1
  · exact ⟨e, by simpa using h1, h2⟩

/-- What is listed has what comes ahead of it listed. -/
structure Clo (ops : Array Oper) (listed : Array Bool) : Prop where
  size : listed.size = ops.size
  clo : ∀ (i : Nat) (o : Oper), ops[i]? = some o → listed.getD i false = true → ∀ e ∈ o.after, Region.binds .any e = true → listed.getD e.on false = true

theorem Clo.bits {ops : Array Oper} {listed : Array Bool} (hb : edgesBack ops.toList = true) (h : Clo ops listed) : ∀ (i : Nat) (o : Oper), ops[i]? = some o → (∀ e ∈ o.after, Region.binds .any e = true → listed.getD e.on false = true) →
    ∀ j, ((allBefore ops.toList).getD i 0).testBit j = true → listed.getD j false = true ∧ j < i := by
  intro i
  induction i using Nat.strongRecOn with
  | _ i ih =>
    intro o ho hl j hj
    rw [(allBefore_get ops.toList).2 i o (by simpa using ho)] at hj
    obtain ⟨e, h1, h2, h3⟩ := befores_bit hj
    have hback : e.on < i := by
      unfold edgesBack at hb
      rw [List.all_eq_true] at hb
      have h4 := hb (o, i) (List.mem_zipIdx_iff_getElem?.2 (by simpa using ho))
      simp only [Array.all_eq_true'] at h4
      have := h4 e h1
      simpa [h2] using this
    have hlt : e.on < ops.size := by have := (Array.getElem?_eq_some_iff.1 ho).1; omega
    rcases h3 with rfl | h3
    · exact ⟨hl e h1 h2, hback⟩
    · have hle := hl e h1 h2
      rw [List.getD_eq_getElem?_getD, List.getElem?_take, if_pos hback, ← List.getD_eq_getElem?_getD] at h3
      obtain ⟨k1, k2⟩ := ih e.on hback ops[e.on] (by simp [hlt]) (fun e' he' hb' => h.clo e.on _ (by simp [hlt]) hle e' he' hb') j h3
      exact ⟨k1, by omega⟩

theorem Clo.set {ops : Array Oper} {listed : Array Bool} (h : Clo ops listed) {i : Nat} (hi : i ∈ Region.ready .any ops listed) : Clo ops (listed.setIfInBounds i true) := by
  obtain ⟨hu, o, ho, hall⟩ := mem_ready.1 hi
  refine ⟨by simp [h.size], fun j oj hj hl e he hb => ?_⟩
  by_cases hij : i = j
  · subst hij
    rw [ho] at hj
    obtain rfl := Option.some.inj hj
    exact getD_set_true (hall e he hb)
  · rw [getD_set_ne false hij] at hl
    exact getD_set_true (h.clo j oj hj hl e he hb)

theorem getD_tf {listed : Array Bool} {i : Nat} (h : i < listed.size) : listed.getD i true = listed.getD i false := by
  simp [Array.getD_eq_getD_getElem?, h]

/-- The first that is not listed is ready. -/
theorem first_ready {ops : Array Oper} {listed : Array Bool} (hb : edgesBack ops.toList = true) (h : Clo ops listed) {i : Nat} (hi : i < ops.size) (hu : listed.getD i false = false) (hf : ∀ j, j < i → listed.getD j false = true) : i ∈ Region.ready .any ops listed := by
  refine mem_ready.2 ⟨by rw [getD_tf (by rw [h.size]; exact hi)]; exact hu, ops[i], by simp [hi], fun e he hbd => hf _ ?_⟩
  unfold edgesBack at hb
  rw [List.all_eq_true] at hb
  have h4 := hb (ops[i], i) (List.mem_zipIdx_iff_getElem?.2 (by simp [hi]))
  simp only [Array.all_eq_true'] at h4
  have := h4 e he
  simpa [hbd] using this

theorem first_un {n : Nat} {p : Nat → Bool} (h : ∃ i, i < n ∧ p i = false) : ∃ i, i < n ∧ p i = false ∧ ∀ j, j < i → p j = true := by
  induction n with
  | zero => obtain ⟨i, h, _⟩ := h; omega
  | succ n ih =>
    by_cases h' : ∃ i, i < n ∧ p i = false
    · obtain ⟨i, h1, h2⟩ := ih h'; exact ⟨i, by omega, h2⟩
    · obtain ⟨i, h1, h2⟩ := h
      have : i = n := by
        rcases Nat.lt_or_ge i n with h3 | h3
        · exact absurd ⟨i, h3, h2⟩ h'
        · omega
      subst this
      refine ⟨i, h1, h2, fun j hj => ?_⟩
      cases hp : p j with
      | true => rfl
      | false => exact absurd ⟨j, hj, hp⟩ h'

/-- The tail's order is forced. -/
theorem tail_bits {ops : Array Oper} {i : Nat} (hi : i < ops.size) (h : tailFrom (allBefore ops.toList) ≤ i) : ∀ j, j < i → ((allBefore ops.toList).getD i 0).testBit j = true := by
  have key : ∀ (l : List Nat) (k h0 : Nat), (∀ (j : Nat) (x : Nat), l[j]? = some x → (l.zipIdx k).foldl (fun h p => if p.1 = 2 ^ p.2 - 1 then h else p.2 + 1) h0 ≤ k + j → x = 2 ^ (k + j) - 1) ∧ (h0 ≤ k → h0 ≤ (l.zipIdx k).foldl (fun h p => if p.1 = 2 ^ p.2 - 1 then h else p.2 + 1) h0) := by
    intro l
    induction l with
    | nil => intro k h0; simp
    | cons x l ih =>
      intro k h0
      simp only [List.zipIdx_cons, List.foldl_cons]
      by_cases hx : x = 2 ^ k - 1
      · rw [if_pos hx]
        obtain ⟨h1, h2⟩ := ih (k + 1) h0
        refine ⟨fun j y hy hle => ?_, fun h => h2 (by omega)⟩
        cases j with
        | zero => simp only [List.getElem?_cons_zero, Option.some.injEq] at hy; subst hy; exact hx
        | succ j =>
          have := h1 j y (by simpa using hy) (by omega)
          rw [show k + (j + 1) = k + 1 + j from by omega]; exact this
      · rw [if_neg hx]
        obtain ⟨h1, h2⟩ := ih (k + 1) (k + 1)
        have h3 := h2 (Nat.le_refl _)
        refine ⟨fun j y hy hle => ?_, fun h => by omega⟩
        cases j with
        | zero => omega
        | succ j =>
          have := h1 j y (by simpa using hy) (by omega)
          rw [show k + (j + 1) = k + 1 + j from by omega]; exact this
  intro j hj
  have hlen : i < (allBefore ops.toList).length := by rw [(allBefore_get _).1]; simpa using hi
  have h1 := (key (allBefore ops.toList) 0 0).1 i (allBefore ops.toList)[i] (by simp [hlen]) (by simpa [tailFrom] using h)
  rw [List.getD_eq_getElem?_getD, List.getElem?_eq_getElem hlen, Option.getD_some, h1, Nat.testBit_two_pow_sub_one]
  simpa using hj

/-! ### One operation of the head, in any order -/

def fin (s : St) (dst : Option Nat) (v : AV) : Option (Option (Nat × Loc)) → St
  | none => s.put dst v
  | some l => { (s.put dst v) with lz := l }

theorem wants_local {l : List SOp} {o : SOp} {s s' : St} (hr : ∀ t ∈ o.looks l, s'.rd t = s.rd t) : wants l s' o = wants l s o := by
  unfold wants
  cases hg : o.guard with
  | none => rfl
  | some gw =>
    obtain ⟨j, b⟩ := gw
    simp only
    cases hj : l[j]? with
    | none => rfl
    | some g =>
      simp only
      cases hd : g.dst with
      | none => rfl
      | some d =>
        simp only
        rw [hr d (by simp [SOp.looks, hg, hj, hd])]

theorem lazyAfter_local {dst : Option Nat} {op : AOp} {s s' : St} (hlen : s'.tm.length = s.tm.length) (hr : ∀ t ∈ op.reads, s'.rd t = s.rd t) : lazyAfter E s' dst op = lazyAfter E s dst op := by
  cases op with
  | movL t => simp only [lazyAfter, hlen]
  | loadL p => simp only [lazyAfter]; rw [ev_local hr, hlen]
  | _ => rfl

theorem lazyAfter_none {dst : Option Nat} {op : AOp} {s : St} (h : lazyOp op = false) : lazyAfter E s dst op = none := by
  cases op <;> first | rfl | simp [lazyOp] at h

theorem lazyAfter_some {dst : Option Nat} {op : AOp} {s : St} (h : lazyOp op = true) : ∃ r, lazyAfter E s dst op = some r ∧ ∀ d t, r = some (d, .tmp t) → t ∈ op.reads ∧ dst = some d := by
  cases op <;> simp only [lazyOp, Bool.false_eq_true] at h
  · rename_i t
    simp only [lazyAfter]
    split
    · split
      · exact ⟨_, rfl, by simp⟩
      · refine ⟨_, rfl, fun d t' h => ?_⟩
        simp only [Option.some.injEq, Prod.mk.injEq, Loc.tmp.injEq] at h
        obtain ⟨rfl, rfl⟩ := h
        exact ⟨by simp [AOp.reads], rfl⟩
    · exact ⟨_, rfl, by simp⟩
  · simp only [lazyAfter]
    split
    · split
      · exact ⟨_, rfl, by simp⟩
      · exact ⟨_, rfl, by simp⟩
    · exact ⟨_, rfl, by simp⟩

theorem lazyAfter_dst {dst : Option Nat} {op : AOp} {s : St} {d : Nat} {ℓ : Loc} (h : lazyAfter E s dst op = some (some (d, ℓ))) : dst = some d := by
  cases op <;> simp only [lazyAfter, reduceCtorEq] at h
  · split at h
    · split at h <;> simp only [Option.some.injEq, Prod.mk.injEq, reduceCtorEq] at h; rw [h.1]
    · simp at h
  · split at h
    · split at h <;> simp only [Option.some.injEq, Prod.mk.injEq, reduceCtorEq] at h; rw [h.1]
    · simp at h

theorem forgetO_len (s : St) (k : Option Nat) : (s.forgetO k).tm.length = s.tm.length := by cases k <;> simp [St.forgetO, St.forget]
theorem forgetO_lz (s : St) (k : Option Nat) : (s.forgetO k).lz = s.lz := by cases k <;> rfl
theorem forgetO_bx (s : St) (k : Option Nat) : (s.forgetO k).bx = s.bx ∧ ((s.forgetO k).df, (s.forgetO k).lk, (s.forgetO k).mu) = (s.df, s.lk, s.mu) := by cases k <;> exact ⟨rfl, rfl⟩

theorem pre_true (op : AOp) (s : St) : pre true op s = s := by cases op <;> rfl

theorem opRun_local2 {l : List SOp} {o : SOp} {s s' s1 : St} {e : List Box} (hbx : s'.bx = s.bx ++ e ∨ noBx o.op = true) (hlen : s'.tm.length = s.tm.length) (hr : ∀ t ∈ o.looks l, s'.rd t = s.rd t) (hh : headOp o.op = true) (h : opRun E cf true l o s = some s1)
    (hz : lazyOp o.op = true → s.lz = none ∧ s'.lz = none) (hk : o.op.kills ≠ none → o.guard = none ∧ s.lz = none ∧ s'.lz = none) :
    ∃ v r, s1 = fin (s.forgetO o.op.kills) o.dst v r ∧ opRun E cf true l o s' = some (fin (s'.forgetO o.op.kills) o.dst v r) ∧ (lazyOp o.op = false → r = none) ∧ (lazyOp o.op = true → ∃ x, r = some x ∧ ∀ d ℓ, x = some (d, ℓ) → o.dst = some d ∧ ∀ t, ℓ = .tmp t → t ∈ o.looks l) := by
  have hrr : ∀ t ∈ o.op.reads, s'.rd t = s.rd t := fun t ht => hr t (by simp [SOp.looks, ht])
  have hzk : s.lz = s'.lz ∨ o.op.kills = none := by
    cases hkk : o.op.kills with
    | none => exact .inr rfl
    | some t => obtain ⟨_, h1, h2⟩ := hk (by simp [hkk]); exact .inl (by rw [h1, h2])
  unfold opRun at h ⊢
  rw [wants_local hr]
  split at h
  · rename_i hw
    simp only [stepOp, pre_true] at h ⊢
    rw [lazyAfter_local hlen hrr]
    split at h <;> try (simp at h; done)
    rename_i v s2 hst
    have := stepV_same hh hst
    subst this
    have hv : stepV E cf true o.dst s' o.op = some (v, s'.forgetO o.op.kills) := by
      rcases hbx with hbx | hn
      · exact stepV_ext hzk hbx hrr hh hst
      · rw [stepV_local hzk (fun hf => by rw [hn] at hf; simp at hf) hrr hh, hst]; rfl
    rw [hv]
    simp only
    cases hl : lazyOp o.op with
    | false =>
      rw [lazyAfter_none hl] at h ⊢
      simp only [Option.some.injEq] at h
      exact ⟨v, none, h.symm, rfl, fun _ => rfl, by simp⟩
    | true =>
      obtain ⟨x, hx, hx2⟩ := lazyAfter_some (E := E) (dst := o.dst) (s := s) hl
      rw [hx] at h ⊢
      simp only [Option.some.injEq] at h
      refine ⟨v, some x, h.symm, rfl, by simp, fun _ => ⟨x, rfl, fun d ℓ hd => ⟨lazyAfter_dst (by rw [hx, hd]), fun t ht => ?_⟩⟩⟩
      subst ht
      have := (hx2 d t hd).1
      simp [SOp.looks, this]
  · rename_i hw
    have hkn : o.op.kills = none := by
      cases hkk : o.op.kills with
      | none => rfl
      | some t =>
        have := (hk (by simp [hkk])).1
        simp [wants, this] at hw
    rw [hkn]
    simp only [St.forgetO]
    simp only [Option.some.injEq] at h ⊢
    cases hl : lazyOp o.op with
    | false => exact ⟨.sv .off, none, h.symm, rfl, fun _ => rfl, by simp⟩
    | true =>
      obtain ⟨z1, z2⟩ := hz hl
      have hput : ∀ (x : St), x.lz = none → x.put o.dst (.sv .off) = { (x.put o.dst (.sv .off)) with lz := none } := by
        intro x hx
        cases o.dst with
        | none => simp only [St.put]; cases x; simp_all
        | some d => simp only [St.put, St.set, hx, clearTmp]
      refine ⟨.sv .off, some none, ?_, ?_, by simp, fun _ => ⟨none, rfl, by simp⟩⟩
      · rw [← h]; exact hput s z1
      · show _ = _; exact hput s' z2
  · simp at h

theorem opRun_local {l : List SOp} {o : SOp} {s s' s1 : St} {e : List Box} (hbx : s'.bx = s.bx ++ e) (hlen : s'.tm.length = s.tm.length) (hr : ∀ t ∈ o.looks l, s'.rd t = s.rd t) (hh : headOp o.op = true) (h : opRun E cf true l o s = some s1)
    (hz : lazyOp o.op = true → s.lz = none ∧ s'.lz = none) (hk : o.op.kills ≠ none → o.guard = none ∧ s.lz = none ∧ s'.lz = none) :
    ∃ v r, s1 = fin (s.forgetO o.op.kills) o.dst v r ∧ opRun E cf true l o s' = some (fin (s'.forgetO o.op.kills) o.dst v r) ∧ (lazyOp o.op = false → r = none) ∧ (lazyOp o.op = true → ∃ x, r = some x ∧ ∀ d ℓ, x = some (d, ℓ) → o.dst = some d ∧ ∀ t, ℓ = .tmp t → t ∈ o.looks l) :=
  opRun_local2 (.inl hbx) hlen hr hh h hz hk

end Go.Ev
