/- New blocks, boxes, and boxes that are written no more. -/
/- New boxes, literals, stores. -/
/- Slices' literals, stores, function values. -/
/- Stores. -/
import Derived.Test.YtgeaomghbiamgaaGreatDoorGab
set_option linter.unusedSimpArgs false
set_option linter.unusedVariables false
namespace Go.Ev
variable {P : Program} {E : Env} {γ : Gh} {a : Act} {w : World} {s : St} {o : Oper} {cf : CallF} {q : Bool} {s1 : St} {av : AV}

theorem GlobOK.mono (h : GlobOK E γ) {γ' : Gh} (hF : ∀ b o v, γ.F b o v → γ'.F b o v) : GlobOK E γ' := fun g => (h g).mono hF

theorem fresh_alloc {bx : List Box} (hb : BoxesOK P γ w bx) (o : Obj) : Fresh γ w γ (w.alloc o) where
  os := rfl
  tape := rfl
  output := rfl
  size := by simp
  blk := fun b hb => heap_alloc_old w o b hb
  F := fun _ _ _ h => h
  Fold := fun _ _ _ _ h => h
  Fw := fun b o' v h => (World.cell?_alloc_lt (w := w) (o := o) (a := ⟨b, o', none⟩) (lt_of_cell (hb.Fw _ _ _ h))).trans (hb.Fw _ _ _ h)
  β := rfl
  sh := rfl
  ow := fun _ _ => rfl
  new := fun b ℓ hl ho => by have := (hb.ow b ℓ ho).1; omega

theorem getElem?_snoc {α : Type} {l : List α} {x y : α} {i : Nat} (h : l[i]? = some y) : (l ++ [x])[i]? = some y := by
  rw [List.getElem?_append_left (List.getElem?_eq_some_iff.1 h).1]; exact h

/-- No two boxes share a block, but for dead ones. -/
def OneBox (β : List Nat) (bx : List Box) : Prop := ∀ (i j b : Nat), β[i]? = some b → β[j]? = some b → i = j ∨ bx[i]? = some (.frz []) ∨ bx[j]? = some (.frz [])

theorem nodup_snoc {β : List Nat} {bx : List Box} {blk : Nat} {bb : Box} (hl : β.length = bx.length) (h : OneBox β bx) (hn : ∀ j : Nat, β[j]? = some blk → bx[j]? = some (.frz [])) : OneBox (β ++ [blk]) (bx ++ [bb]) := by
  have key : ∀ i b : Nat, (β ++ [blk])[i]? = some b → (β[i]? = some b ∧ i < bx.length) ∨ (i = β.length ∧ b = blk) := by
    intro i b hi
    by_cases hlt : i < β.length
    · rw [List.getElem?_append_left hlt] at hi
      exact .inl ⟨hi, by omega⟩
    · rw [List.getElem?_append_right (by omega)] at hi
      have := (List.getElem?_eq_some_iff.1 hi).1
      simp only [List.length_singleton] at this
      have h0 : i - β.length = 0 := by omega
      rw [h0] at hi
      simp only [List.getElem?_cons_zero, Option.some.injEq] at hi
      exact .inr ⟨by omega, hi.symm⟩
  intro i j b hi hj
  rcases key i b hi with ⟨h1, h2⟩ | ⟨h1, h2⟩ <;> rcases key j b hj with ⟨g1, g2⟩ | ⟨g1, g2⟩
  · rw [List.getElem?_append_left h2, List.getElem?_append_left g2]
    exact h i j b h1 g1
  · subst g2
    rw [List.getElem?_append_left h2]
    exact .inr (.inl (hn i h1))
  · subst h2
    rw [List.getElem?_append_left g2]
    exact .inr (.inr (hn j g1))
  · exact .inl (by omega)

theorem nodup_set {β : List Nat} {bx : List Box} {i0 : Nat} {b0 bb : Box} (h : OneBox β bx) (h0 : bx[i0]? = some b0) (hb : b0 = .frz [] → bb = .frz []) : OneBox β (bx.set i0 bb) := by
  have hlt := (List.getElem?_eq_some_iff.1 h0).1
  have key : ∀ i : Nat, bx[i]? = some (.frz []) → (bx.set i0 bb)[i]? = some (.frz []) := by
    intro i hi
    rw [List.getElem?_set]
    split
    · rename_i e
      subst e
      rw [hi] at h0
      rw [hb (Option.some.inj h0).symm]
    · exact hi
  intro i j b hi hj
  rcases h i j b hi hj with e | e | e
  · exact .inl e
  · exact .inr (.inl (key i e))
  · exact .inr (.inr (key j e))

/-- Another box of the same block is dead. -/
theorem other_dead {β : List Nat} {bx : List Box} {i j blk : Nat} {b0 b : Box} (h : OneBox β bx) (hi : bx[i]? = some b0) (hd : b0 ≠ .frz []) (hk : β[i]? = some blk) (hj : bx[j]? = some b) (hk' : β[j]? = some blk) (hne : j ≠ i) : b = .frz [] := by
  rcases h i j blk hk hk' with e | e | e
  · exact absurd e.symm hne
  · rw [hi] at e; exact absurd (Option.some.inj e) hd
  · rw [hj] at e; exact Option.some.inj e

theorem dead_rep {γ : Gh} {w : World} {i blk : Nat} (h : blk < w.heap.size) : RepB P γ w i blk (.frz []) := ⟨h, #[], by simp, by simp⟩

theorem R.addBoxB (hR : R P γ a w s) {blk : Nat} {bb : Box} (hn : ∀ j : Nat, γ.β[j]? = some blk → s.bx[j]? = some (.frz [])) (ho : γ.ow blk = none) (hB : RepB P { γ with β := γ.β ++ [blk] } w s.bx.length blk bb) :
    R P { γ with β := γ.β ++ [blk] } a w { s with bx := s.bx ++ [bb] } := by
  have hβ : ∀ i b : Nat, γ.β[i]? = some b → (γ.β ++ [blk])[i]? = some b := fun i b h => getElem?_snoc h
  have hA : ∀ {ℓ : Loc} {av : AV} {u : Value}, RepA P γ w ℓ av u → RepA P { γ with β := γ.β ++ [blk] } w ℓ av u := fun h =>
    h.keep (fun _ _ _ h => h) hβ (fun _ _ hg => ⟨rfl, fun _ _ h => h, hg⟩)
  refine ⟨⟨by simp [hR.bx.len], ?_, ?_, hR.bx.Fw, ?_, fun b e c hs => ⟨List.mem_append_left _ (hR.bx.sh b e c hs).1, (hR.bx.sh b e c hs).2⟩⟩, hR.sz, fun t' ht => hA (hR.tm t' ht), ?_, hR.dl, ?_⟩
  · intro i b blk' hi hk
    by_cases hlt : i < s.bx.length
    · rw [List.getElem?_append_left hlt] at hi
      rw [List.getElem?_append_left (by rw [hR.bx.len]; exact hlt)] at hk
      exact (hR.bx.box i b blk' hi hk).keep (fun _ _ _ h => h) rfl (fun _ _ h => h) (fun _ _ hg => ⟨rfl, fun _ _ h => h, hg⟩) hβ
    · rw [List.getElem?_append_right (by omega)] at hi
      rw [List.getElem?_append_right (by rw [hR.bx.len]; omega), hR.bx.len] at hk
      have hi0 : i - s.bx.length = 0 := by
        have := (List.getElem?_eq_some_iff.1 hi).1
        simp at this; omega
      rw [hi0] at hi hk
      simp at hi hk
      subst hi; subst hk
      rw [show i = s.bx.length from by omega]
      exact hB
  · exact nodup_snoc hR.bx.len hR.bx.nodup hn
  · intro b ℓ hb
    obtain ⟨k1, k2⟩ := hR.bx.ow b ℓ hb
    refine ⟨k1, ?_⟩
    simp only [List.mem_append, List.mem_singleton, not_or]
    exact ⟨k2, fun e => by subst e; rw [ho] at hb; simp at hb⟩
  · intro d ℓ hd
    have := hR.lz d ℓ hd
    cases ℓ with
    | tmp t' => exact this
    | cell i off => obtain ⟨b, h1, h2⟩ := this; exact ⟨b, hβ _ _ h1, h2⟩
    | ret => trivial
  · intro i d c hd hc
    exact hR.df i d c hd hc

theorem R.addBox (hR : R P γ a w s) {blk : Nat} {arr : Array Value} {t : TypeId} {m : Nat × Nat} (hh : w.heap[blk]? = some (.cells arr t m)) (hn : ∀ j : Nat, γ.β[j]? = some blk → s.bx[j]? = some (.frz [])) (ho : γ.ow blk = none) (hF : ∀ o v, ¬ γ.F blk o v)
    (cs : List SV) (hs : cs.length ≤ arr.size) (hm : Free m cs.length) (hr : ∀ (j : Nat) (x : SV), cs[j]? = some x → x.one = true ∧ RepS γ.F x (arr.getD j undef)) :
    R P { γ with β := γ.β ++ [blk] } a w { s with bx := s.bx ++ [.live (cs.map .sv)] } := by
  refine hR.addBoxB hn ho ⟨arr, t, m, hh, ⟨by simpa using hs, by simpa using hm⟩, fun j c hc => ?_, hF⟩
  rw [List.getElem?_map] at hc
  obtain ⟨x, hx, rfl⟩ := Option.map_eq_some_iff.1 hc
  exact hr j x hx

/-- A new box. -/
theorem R.push (hR : R P γ a w s) (arr : Array Value) (t : TypeId) (cs : List SV) (hs : arr.size = cs.length) (hr : ∀ (j : Nat) (x : SV), cs[j]? = some x → x.one = true ∧ RepS γ.F x (arr.getD j undef)) :
    ∃ γ', R P γ' a (w.alloc (.cells arr t)) { s with bx := s.bx ++ [.live (cs.map .sv)] } ∧ Ext γ w γ' (w.alloc (.cells arr t)) ∧ γ'.β[s.bx.length]? = some w.heap.size ∧ γ'.F = γ.F := by
  have hf := fresh_alloc hR.bx (.cells arr t)
  have h1 := hf.R hR
  have hnF : ∀ o v, ¬ γ.F w.heap.size o v := fun o v h => by have := lt_of_cell (hR.bx.Fw _ _ _ h); omega
  have hnβ : w.heap.size ∉ γ.β := fun h => by have := hR.bx.β_lt h; omega
  have hno : γ.ow w.heap.size = none := by
    cases h : γ.ow w.heap.size with
    | none => rfl
    | some ℓ => have := (hR.bx.ow _ _ h).1; omega
  refine ⟨_, h1.addBox (heap_alloc_new w _) (fun j hj => absurd (List.mem_of_getElem? hj) hnβ) hno hnF cs (by omega) (free00 _) hr, ?_, ?_, rfl⟩
  · have he := hf.ext
    exact ⟨he.os, he.tape, he.output, he.size, he.F, ⟨[w.heap.size], rfl, by simp⟩, he.blk, he.Fnew, he.own, he.sh⟩
  · rw [List.getElem?_append_right (by rw [hR.bx.len]; omega), hR.bx.len]; simp

/-- A box that is written no more: its cells stay. -/
theorem R.freeze (hR : R P γ a w s) {i blk : Nat} {b : Box} (hi : s.bx[i]? = some b) (hk : γ.β[i]? = some blk) :
    ∃ γ', R P γ' a w { s with bx := s.bx.set i (.frz b.cells) } ∧ Ext γ w γ' w ∧ γ'.β = γ.β ∧
      ∃ arr : Array Value, b.cells.length ≤ arr.size ∧ ∀ (j : Nat) (x : SV), b.cells[j]? = some x → x.one = true ∧ γ'.F blk j (arr.getD j undef) ∧ RepS γ'.F x (arr.getD j undef) := by
  have hilt : i < s.bx.length := (List.getElem?_eq_some_iff.1 hi).1
  have hb := hR.bx.box i b blk hi hk
  cases b with
  | frz cs =>
    obtain ⟨_, arr, k2, k3⟩ := hb
    have hset : s.bx.set i (.frz cs) = s.bx := by
      apply List.ext_getElem?
      intro j
      rw [List.getElem?_set]
      split
      · rename_i e; subst e; simp [hilt]; exact (List.getElem?_eq_some_iff.1 hi).2.symm
      · rfl
    refine ⟨γ, ?_, Ext.refl _ _, rfl, arr, k2, k3⟩
    simp only [Box.cells, hset]
    exact ⟨hR.bx, hR.sz, hR.tm, hR.lz, hR.dl, hR.df⟩
  | it l p =>
    refine ⟨γ, ⟨⟨by simp [hR.bx.len], ?_, nodup_set hR.bx.nodup hi (by simp), hR.bx.Fw, hR.bx.ow, hR.bx.sh⟩, hR.sz, hR.tm, hR.lz, hR.dl, hR.df⟩, Ext.refl _ _, rfl, #[], by simp [Box.cells], by simp [Box.cells]⟩
    intro i' b' blk' hi' hk'
    rw [List.getElem?_set] at hi'
    split at hi'
    · rename_i e
      subst e
      simp only [hilt, if_true, Option.some.injEq] at hi'
      subst hi'
      have : blk' = blk := by have h := hk'.symm.trans hk; simpa using h
      subst this
      exact ⟨heap_lt hb, #[], by simp [Box.cells], by simp [Box.cells]⟩
    · exact hR.bx.box i' b' blk' hi' hk'
  | live cs =>
    obtain ⟨arr, t, m, k1, ⟨k2, kf⟩, k3, k4⟩ := hb
    let γ' : Gh := { γ with F := fun b o v => γ.F b o v ∨ (b = blk ∧ arr[o]? = some v) }
    have hFs : ∀ b o v, γ.F b o v → γ'.F b o v := fun b o v h => .inl h
    have hFn : ∀ g, g ≠ blk → ∀ o v, γ'.F g o v → γ.F g o v := fun g hg o v h => h.resolve_right (fun h => hg h.1)
    have hblkβ : blk ∈ γ.β := List.mem_of_getElem? hk
    have hog : ∀ g ℓ, γ.ow g = some ℓ → g ≠ blk := fun g ℓ h e => (hR.bx.ow g ℓ h).2 (e ▸ hblkβ)
    have hA : ∀ {ℓ : Loc} {av : AV} {u : Value}, RepA P γ w ℓ av u → RepA P γ' w ℓ av u := fun h =>
      h.keep hFs (fun _ _ h => h) (fun g _ hg => ⟨rfl, hFn g (hog g _ hg), hg⟩)
    have hcells : ∀ (j : Nat) (x : SV), (cs.map Cell.plain)[j]? = some x → x.one = true ∧ γ'.F blk j (arr.getD j undef) ∧ RepS γ'.F x (arr.getD j undef) := by
      intro j x hx
      rw [List.getElem?_map] at hx
      obtain ⟨c, hc, rfl⟩ := Option.map_eq_some_iff.1 hx
      have hlt : j < arr.size := by have := (List.getElem?_eq_some_iff.1 hc).1; omega
      have hF : γ'.F blk j (arr.getD j undef) := .inr ⟨rfl, by simp [Array.getD_eq_getD_getElem?, Array.getElem?_eq_getElem hlt]⟩
      have hcr := k3 j c hc
      cases c with
      | sv v => exact ⟨SV.can0_one hcr.1, hF, hcr.2.can0.mono hFs⟩
      | own e xs => exact ⟨rfl, hF, (RepO.rep hcr).mono hFs⟩
      | lnk k o =>
        obtain ⟨b, _, e⟩ := hcr
        refine ⟨rfl, hF, ?_⟩
        show RepS γ'.F (.ref []) (arr.getD j undef)
        rw [e]
        exact .ref [] b o (fun _ => undef) (by simp) (by simp) (by simp)
      | lrw k n e =>
        obtain ⟨b, c, _, _, e⟩ := hcr
        refine ⟨rfl, hF, ?_⟩
        show RepS γ'.F .unk (arr.getD j undef)
        rw [e]
        exact .unk _ rfl rfl
    refine ⟨γ', ⟨⟨by simp [hR.bx.len, γ'], ?_, nodup_set hR.bx.nodup hi (by simp), ?_, hR.bx.ow, hR.bx.sh⟩, hR.sz, fun t' ht => hA (hR.tm t' ht), fun d ℓ h => by
      have := hR.lz d ℓ h
      cases ℓ <;> exact this, hR.dl, ?_⟩, ?_, rfl, arr, by simp [Box.cells, k2], hcells⟩
    · intro i' b' blk' hi' hk'
      rw [List.getElem?_set] at hi'
      split at hi'
      · rename_i e
        subst e
        simp only [hilt, if_true, Option.some.injEq] at hi'
        subst hi'
        have : blk' = blk := by have h := hk'.symm.trans hk; simpa using h
        subst this
        exact ⟨heap_lt k1, arr, by simp [Box.cells, k2], hcells⟩
      · rename_i e
        by_cases hne : blk' = blk
        · subst hne
          have := other_dead hR.bx.nodup hi (by simp) hk hi' hk' (fun h => e h.symm)
          subst this
          exact dead_rep (heap_lt k1)
        · exact (hR.bx.box i' b' blk' hi' hk').keep hFs rfl (hFn blk' hne) (fun g j hg => ⟨rfl, hFn g (hog g _ hg), hg⟩) (fun _ _ h => h)
    · intro b' o' v hF
      rcases hF with hF | ⟨rfl, hv⟩
      · exact hR.bx.Fw _ _ _ hF
      · rw [cell_of_row w b' o' arr t m k1]; exact hv
    · intro j d c hd hc
      exact hR.df j d c hd hc
    · exact ⟨rfl, rfl, rfl, Nat.le_refl _, hFs, ⟨[], by simp [γ'], by simp⟩, fun _ _ => rfl, fun b' o' v hf h => hFn b' (fun e => hf.2.1 (e ▸ hblkβ)) o' v h, fun _ h => h.2.2, fun _ _ h => h⟩

/-- What can be shared: one cell, or cells. -/
def SV.fit (x : SV) : Prop := x.one = true ∨ ∃ cs, x = .agg cs

theorem can_fit {F : Frz} {v : SV} {u : Value} (h : RepS F v u) (h1 : v ≠ .undef) (h3 : v ≠ .off) (h2 : ∀ l, v ≠ .tup l) : v.can.fit := by
  cases v <;> first | exact absurd rfl h1 | exact absurd rfl h3 | exact absurd rfl (h2 _) | exact .inl rfl | exact .inr ⟨_, rfl⟩

theorem flat_ones {l : List SV} (h : ∀ (j : Nat) (x : SV), l[j]? = some x → x.one = true) : flat l = l := by
  induction l with
  | nil => rfl
  | cons x xs ih => rw [flat_cons, SV.cells_one (h 0 x rfl), ih (fun j y hy => h (j + 1) y (by simpa using hy))]; rfl

theorem chunk_spec (k : Nat) : ∀ (n : Nat) (cs : List SV), cs.length = n * k → (∀ x ∈ cs, x.one = true) → (chunk k n cs).length = n ∧ (∀ x ∈ chunk k n cs, x.cells.length = k) ∧ (0 < k → flat (chunk k n cs) = cs)
  | 0, cs, h, _ => by
    have : cs = [] := List.eq_nil_of_length_eq_zero (by simpa using h)
    subst this
    exact ⟨rfl, by simp [chunk], fun _ => rfl⟩
  | n + 1, cs, h, ho => by
    have hk : k ≤ cs.length := by rw [h, Nat.add_mul]; omega
    obtain ⟨h1, h2, h3⟩ := chunk_spec k n (cs.drop k) (by rw [List.length_drop, h, Nat.add_mul]; omega) (fun x hx => ho x (List.mem_of_mem_drop hx))
    have hx : ∀ x, x = (if k = 1 then cs.headD .undef else SV.agg (cs.take k)) → x.cells.length = k ∧ (x.cells = cs.take k) := by
      intro x e
      subst e
      split
      · rename_i e1
        subst e1
        cases cs with
        | nil => simp at hk
        | cons c cs =>
          have := SV.cells_one (ho c (by simp))
          simp only [List.headD_cons]
          rw [this]
          simp
      · exact ⟨by simp [SV.cells, Nat.min_eq_left hk], rfl⟩
    obtain ⟨q1, q2⟩ := hx _ rfl
    refine ⟨by simp [chunk, h1], fun y hy => ?_, fun hk0 => ?_⟩
    · simp only [chunk] at hy
      rcases List.mem_cons.1 hy with rfl | hy
      · exact q1
      · exact h2 y hy
    · simp only [chunk]
      rw [flat_cons, q2, h3 hk0, List.take_append_drop]

theorem RepS.sl' {F : Frz} (xs : List SV) (b o c k n : Nat) (vs : Nat → Value) (hk : 0 < k) (hn : xs.length = n) (h0 : 0 < n) (hc : n ≤ c) (hl : ∀ x ∈ xs, x.cells.length = k)
    (hF : ∀ j, j < n * k → F b (o + j) (vs j)) (ho : ∀ (j : Nat) (x : SV), (flat xs)[j]? = some x → x.one = true)
    (hr : ∀ (j : Nat) (x : SV), (flat xs)[j]? = some x → RepS F x (vs j)) : RepS F (.sl xs) (.slice (some ⟨b, o, none⟩) n c) := by
  subst hn
  exact .sl xs b o c k vs hk (by intro e; subst e; simp at h0) hc hl hF ho hr

theorem sink_ok (hR : R P γ a w s) {ℓ : Loc} {u : Value} (hv : RepA P γ w ℓ av u) {x : SV} {s' : St} (h : sink s av = some (x, s')) :
    ∃ γ', R P γ' a w s' ∧ Ext γ w γ' w ∧ RepS γ'.F x u ∧ x.fit ∧ s'.tm = s.tm ∧ s'.df = s.df ∧ γ'.β = γ.β := by
  unfold sink at h
  split at h
  · simp at h
  · simp at h
  · simp at h
  · rename_i v hn1 hn3 hn2
    simp only [Option.some.injEq, Prod.mk.injEq] at h
    obtain ⟨rfl, rfl⟩ := h
    exact ⟨γ, hR, Ext.refl _ _, hv.sv_inv.can, can_fit hv.sv_inv (fun e => hn1 (by rw [e])) (fun e => hn3 (by rw [e])) (fun l e => hn2 l (by rw [e])), rfl, rfl, rfl⟩
  · simp only [Option.some.injEq, Prod.mk.injEq] at h
    obtain ⟨rfl, rfl⟩ := h
    cases hv with
    | own _ _ _ h => exact ⟨γ, hR, Ext.refl _ _, h.rep, .inl rfl, rfl, rfl, rfl⟩
  · rename_i i off
    split at h <;> simp only [Option.some.injEq, Prod.mk.injEq, reduceCtorEq] at h
    rename_i b hb
    obtain ⟨rfl, rfl⟩ := h
    cases hv with
    | ptr _ _ blk hblk =>
      obtain ⟨γ', h1, h2, h3, arr, h4, h5⟩ := hR.freeze hb hblk
      refine ⟨γ', h1, h2, .ref _ blk off (fun j => arr.getD (off + j) undef) (fun j hj => ?_) (fun j x hx => ?_) (fun j x hx => ?_), .inl rfl, rfl, rfl, h3⟩
      · simp only [List.length_drop] at hj
        exact (h5 (off + j) b.cells[off + j] (by simp [show off + j < b.cells.length by omega])).2.1
      · rw [List.getElem?_drop] at hx; exact (h5 _ _ hx).1
      · rw [List.getElem?_drop] at hx; exact (h5 _ _ hx).2.2
  · rename_i i n e
    split at h <;> try (simp at h; done)
    split at h <;> try (simp at h; done)
    rename_i b hb
    split at h <;> simp only [Option.some.injEq, Prod.mk.injEq, reduceCtorEq] at h
    rename_i hn
    obtain ⟨rfl, rfl⟩ := h
    cases hv with
    | mrow _ _ _ blk cap hblk hcap =>
      obtain ⟨γ', h1, h2, h3, arr, h4, h5⟩ := hR.freeze hb hblk
      refine ⟨γ', h1, h2, ?_, .inl rfl, rfl, rfl, h3⟩
      subst hn
      by_cases he : b.cells = []
      · rw [he]; exact .slE _ _
      · have hfl := flat_ones (fun j x hx => (h5 j x hx).1)
        refine .sl _ blk 0 _ 1 (fun j => arr.getD j undef) (by omega) he hcap (fun x hx => ?_) (fun j hj => ?_) (fun j x hx => ?_) (fun j x hx => ?_)
        · obtain ⟨j, hj⟩ := List.getElem?_of_mem hx
          rw [SV.cells_one (h5 j x hj).1]; rfl
        · rw [Nat.zero_add]
          exact (h5 j b.cells[j] (by simp [show j < b.cells.length by omega])).2.1
        · rw [hfl] at hx; exact (h5 j x hx).1
        · rw [hfl] at hx; exact (h5 j x hx).2.2
  · rename_i i n k e
    split at h <;> try (simp at h; done)
    rename_i b hb
    split at h <;> simp only [Option.some.injEq, Prod.mk.injEq, reduceCtorEq] at h
    rename_i hn
    obtain ⟨rfl, rfl⟩ := h
    cases hv with
    | grw _ _ _ _ blk cap hblk hsh hcap hke hk0 =>
      obtain ⟨γ', h1, h2, h3, arr, h4, h5⟩ := hR.freeze hb hblk
      refine ⟨γ', h1, h2, ?_, .inl rfl, rfl, rfl, h3⟩
      have hone : ∀ x ∈ b.cells, x.one = true := fun x hx => by
        obtain ⟨j, hj⟩ := List.getElem?_of_mem hx
        exact (h5 j x hj).1
      obtain ⟨c1, c2, c3⟩ := chunk_spec k n b.cells hn hone
      by_cases he : n = 0
      · subst he
        exact .slE _ _
      · refine .sl' _ blk 0 _ k n (fun j => arr.getD j undef) hk0 c1 (by omega) hcap c2 (fun j hj => ?_) (fun j x hx => ?_) (fun j x hx => ?_)
        · rw [Nat.zero_add]
          exact (h5 j b.cells[j] (by simp [show j < b.cells.length by omega])).2.1
        · rw [c3 hk0] at hx; exact (h5 j x hx).1
        · rw [c3 hk0] at hx; exact (h5 j x hx).2.2
  · simp at h

theorem sinkQ_sink {q : Bool} {x : SV} {s' : St} (h : sinkQ q s av = some (x, s')) : sink s av = some (x, s') := by
  unfold sinkQ at h
  split at h
  · simp at h
  · simp at h
  · simp at h
  · exact h

theorem rd_of_tm {s s' : St} (h : s'.tm = s.tm) (n : Nat) : s'.rd n = s.rd n := by simp [St.rd, h]

theorem ev_of_tm {s s' : St} (h : s'.tm = s.tm) (x : Opd) : x.ev E s' = x.ev E s := by cases x <;> simp [Opd.ev, rd_of_tm h]

theorem sinks_ok : ∀ (os : List Operand) (xs : List Opd) (γ : Gh) (s : St) (vs : List SV) (s' : St), allSome (os.map opd) = some xs → R P γ a w s → GlobOK E γ → sinks E q s xs = some (vs, s') →
    ∃ γ', R P γ' a w s' ∧ Ext γ w γ' w ∧ vs.length = os.length ∧ (∀ (j : Nat) (x : SV) (o : Operand), vs[j]? = some x → os[j]? = some o → RepS γ'.F x (a.eval o) ∧ x.fit) ∧ s'.tm = s.tm ∧ s'.df = s.df
  | [], xs, γ, s, vs, s', hx, hR, hG, h => by
    simp only [List.map_nil, allSome, Option.some.injEq] at hx; subst hx
    simp only [sinks, Option.some.injEq, Prod.mk.injEq] at h
    obtain ⟨rfl, rfl⟩ := h
    exact ⟨γ, hR, Ext.refl _ _, rfl, by simp, rfl, rfl⟩
  | o :: os, xs, γ, s, vs, s', hx, hR, hG, h => by
    simp only [List.map_cons] at hx
    cases ho : opd o with
    | none => rw [ho] at hx; simp [allSome] at hx
    | some y =>
      rw [ho] at hx
      simp only [allSome] at hx
      split at hx <;> simp only [Option.some.injEq, reduceCtorEq] at hx
      rename_i ys hys
      subst hx
      simp only [sinks] at h
      split at h <;> try (simp at h; done)
      rename_i v s2 hv
      split at h <;> simp only [Option.some.injEq, Prod.mk.injEq, reduceCtorEq] at h
      rename_i vs' s3 hvs
      obtain ⟨rfl, rfl⟩ := h
      obtain ⟨γ1, h1, h2, h3, h4, h5, h6, _⟩ := sink_ok hR (ev_rep hR hG ho) (sinkQ_sink hv)
      obtain ⟨γ2, k1, k2, k3, k4, k5, k6⟩ := sinks_ok os ys γ1 s2 vs' s3 hys h1 (hG.mono h2.F) hvs
      refine ⟨γ2, k1, h2.trans k2, by simp [k3], fun j x o' hx ho' => ?_, k5.trans h5, k6.trans h6⟩
      cases j with
      | zero =>
        simp only [List.getElem?_cons_zero, Option.some.injEq] at hx ho'
        subst hx; subst ho'
        exact ⟨h3.mono k2.F, h4⟩
      | succ j => exact k4 j x o' (by simpa using hx) (by simpa using ho')

theorem op_mkI (hR : R P γ a w s) (hG : GlobOK E γ) {t : TypeId} {d : TypeDesc} {x : Operand} {x' : Opd} (ho : o.op = .makeInterface t x) (ht : P.underlying t = some d) (hd : ∀ ms, d ≠ .interface ms) (hx : opd x = some x')
    (h : stepV E cf q o.dst s (.mkI t x') = some (av, s1)) : Done P γ a w o av s1 := by
  simp only [stepV] at h
  split at h <;> simp only [Option.some.injEq, Prod.mk.injEq, reduceCtorEq] at h
  rename_i v s2 hv
  obtain ⟨rfl, rfl⟩ := h
  obtain ⟨γ1, h1, h2, h3, h4, _⟩ := sink_ok hR (ev_rep hR hG hx) (sinkQ_sink hv)
  refine ⟨.iface t (a.eval x), w, γ1, .inl ?_, h2, h1, .sv _ _ _ (.iface _ _ _ h3)⟩
  simp only [execOp, ho]
  cases d <;> first | (simp [Instr.makeInterface, run_underlying ht]; done) | exact absurd rfl (hd _)

end Go.Ev

set_option linter.unusedSimpArgs false
set_option linter.unusedVariables false
namespace Go.Ev
variable {P : Program} {E : Env} {γ : Gh} {a : Act} {w : World} {s : St} {o : Oper} {cf : CallF} {q : Bool} {s1 : St} {av : AV}

theorem allSome_spec {α : Type} : ∀ {l : List (Option α)} {r : List α}, allSome l = some r → r.length = l.length ∧ ∀ j : Nat, ∀ x, r[j]? = some x → l[j]? = some (some x)
  | [], r, h => by simp only [allSome, Option.some.injEq] at h; subst h; simp
  | none :: l, r, h => by simp [allSome] at h
  | some x :: l, r, h => by
    simp only [allSome] at h
    split at h <;> simp only [Option.some.injEq, reduceCtorEq] at h
    rename_i r' hr'
    subst h
    obtain ⟨h1, h2⟩ := allSome_spec hr'
    refine ⟨by simp [h1], fun j y hy => ?_⟩
    cases j with
    | zero => simpa using hy
    | succ j => simpa using h2 j y (by simpa using hy)

theorem constSV_one {v : Value} {x : SV} (h : constSV v = some x) : x.one = true := by
  unfold constSV at h
  split at h <;> simp only [Option.some.injEq, reduceCtorEq] at h <;> subst h <;> rfl

theorem zero_rep {t : TypeId} {z : List SV} (h : zeroSV P t = some z) : ∃ i zv, P.info? t = some i ∧ i.zero = some zv ∧ zv.cells.size = z.length ∧
    ∀ F (j : Nat) (x : SV), z[j]? = some x → x.one = true ∧ RepS F x (zv.cells.getD j undef) := by
  unfold zeroSV at h
  split at h <;> try (simp at h; done)
  rename_i i hi
  split at h <;> try (simp at h; done)
  rename_i zv hz
  obtain ⟨h1, h2⟩ := allSome_spec h
  refine ⟨i, zv, hi, hz, by simpa using h1.symm, fun F j x hx => ?_⟩
  have := h2 j x hx
  rw [List.getElem?_map] at this
  obtain ⟨v, hv, hc⟩ := Option.map_eq_some_iff.1 this
  have hv' : zv.cells[j]? = some v := by simpa using hv
  refine ⟨constSV_one hc, ?_⟩
  simp only [Array.getD_eq_getD_getElem?, hv', Option.getD_some]
  exact constSV_rep hc

theorem op_new (hR : R P γ a w s) (hG : GlobOK E γ) {t : TypeId} {z : List SV} (ho : o.op = .alloc t) (hz : zeroSV P t = some z)
    (h : stepV E cf q o.dst s (.new z) = some (av, s1)) : Done P γ a w o av s1 := by
  simp only [stepV] at h
  split at h <;> simp only [Option.some.injEq, Prod.mk.injEq, reduceCtorEq] at h
  obtain ⟨rfl, rfl⟩ := h
  obtain ⟨i, zv, h1, h2, h3, h4⟩ := zero_rep hz
  obtain ⟨γ', k1, k2, k3, _⟩ := hR.push zv.cells t z h3 (h4 γ.F)
  refine ⟨.pointer (some ⟨w.heap.size, 0, none⟩), _, γ', .inl ?_, k2, k1, .ptr _ _ _ _ k3⟩
  simp only [execOp, ho]
  simp [Instr.alloc, zeroValue, typeInfo, h1, h2, newVar, newRow]

/-- The cells of what can be shared. -/
theorem cells_rep {F : Frz} {v : SV} {u : Value} (h : RepS F v u) (hf : v.fit) : u.cells.size = v.cells.length ∧ ∀ (j : Nat) (x : SV), v.cells[j]? = some x → x.one = true ∧ RepS F x (u.cells.getD j undef) := by
  rcases hf with hf | ⟨cs, rfl⟩
  · rw [SV.cells_one hf, h.cells_one hf]
    refine ⟨rfl, fun j x hx => ?_⟩
    cases j with
    | zero => simp at hx; subst hx; exact ⟨hf, h⟩
    | succ j => simp at hx
  · obtain ⟨vs, rfl, h1, h2, h3⟩ := h.agg_inv
    exact ⟨h1, fun j x hx => ⟨h2 j x hx, h3 j x hx⟩⟩

theorem fit_of {v : SV} (h1 : v ≠ .undef) (h3 : v ≠ .off) (h2 : ∀ l, v ≠ .tup l) : v.fit := by
  cases v <;> first | exact absurd rfl h1 | exact absurd rfl h3 | exact absurd rfl (h2 _) | exact .inl rfl | exact .inr ⟨_, rfl⟩

theorem op_box (hR : R P γ a w s) (hG : GlobOK E γ) {t : TypeId} {i : TypeInfo} {x : Operand} {x' : Opd} (ho : o.op = .box t x) (hi : P.info? t = some i) (hx : opd x = some x')
    (h : stepV E cf q o.dst s (.box i.size x') = some (av, s1)) : Done P γ a w o av s1 := by
  have hv := ev_rep hR hG hx
  simp only [stepV] at h
  split at h <;> try (simp at h; done)
  have hrun : (execOp a.eval o).run P w = .ok (.value (.pointer (some ⟨w.heap.size, 0, none⟩))) (w.alloc (.cells (a.eval x).cells t)) := by
    simp only [execOp, ho]
    simp [Instr.box, newVar, newRow]
  split at h
  · simp at h
  · simp at h
  · simp at h
  · rename_i v hn1 hn3 hn2 hv'
    split at h <;> simp only [Option.some.injEq, Prod.mk.injEq, reduceCtorEq] at h
    rename_i hlen
    obtain ⟨rfl, rfl⟩ := h
    rw [hv'] at hv
    obtain ⟨c1, c2⟩ := cells_rep hv.sv_inv (fit_of hn1 hn3 hn2)
    obtain ⟨γ', k1, k2, k3, _⟩ := hR.push (a.eval x).cells t v.cells c1 c2
    exact ⟨_, _, γ', .inl hrun, k2, k1, .ptr _ _ _ _ k3⟩
  · rename_i e xs hv'
    split at h <;> simp only [Option.some.injEq, Prod.mk.injEq, reduceCtorEq] at h
    obtain ⟨rfl, rfl⟩ := h
    rw [hv'] at hv
    cases hv with
    | own _ _ _ hO =>
      obtain ⟨c1, c2⟩ := cells_rep hO.rep (.inl rfl)
      obtain ⟨γ', k1, k2, k3, _⟩ := hR.push (a.eval x).cells t [.sl xs] c1 c2
      exact ⟨_, _, γ', .inl hrun, k2, k1, .ptr _ _ _ _ k3⟩
  · simp at h

/-- Cells that stand for values, one by one. -/
def RepL (F : Frz) (cs : List SV) (arr : Array Value) : Prop := arr.size = cs.length ∧ ∀ (j : Nat) (x : SV), cs[j]? = some x → x.one = true ∧ RepS F x (arr.getD j undef)

theorem splice_length {cs vs : List SV} {off : Nat} (h : off + vs.length ≤ cs.length) : (splice cs off vs).length = cs.length := by simp [splice]; omega

theorem splice_get {cs vs : List SV} {off : Nat} (h : off + vs.length ≤ cs.length) (j : Nat) : (splice cs off vs)[j]? = if off ≤ j ∧ j < off + vs.length then vs[j - off]? else cs[j]? := by
  unfold splice
  by_cases h1 : j < off
  · rw [List.append_assoc, List.getElem?_append_left (by simp; omega), List.getElem?_take, if_pos h1, if_neg (by omega)]
  · by_cases h2 : j < off + vs.length
    · rw [List.getElem?_append_left (by simp; omega), List.getElem?_append_right (by simp; omega), if_pos (by omega)]
      congr 1; simp; omega
    · rw [List.getElem?_append_right (by simp; omega), List.getElem?_drop, if_neg (by omega)]
      congr 1; simp; omega

theorem foldl_splice (news : List Value) : ∀ (k off : Nat) (arr : Array Value), off + k + news.length ≤ arr.size →
    ((news.zipIdx k).foldl (fun cs p => cs.setIfInBounds (off + p.2) p.1) arr).size = arr.size ∧
    ∀ j, ((news.zipIdx k).foldl (fun cs p => cs.setIfInBounds (off + p.2) p.1) arr).getD j undef = if off + k ≤ j ∧ j < off + k + news.length then news.getD (j - (off + k)) undef else arr.getD j undef := by
  induction news with
  | nil => intro k off arr h; simp; intro j h1 h2; omega
  | cons x xs ih =>
    intro k off arr h
    simp only [List.length_cons] at h
    simp only [List.zipIdx_cons, List.foldl_cons]
    obtain ⟨h1, h2⟩ := ih (k + 1) off (arr.setIfInBounds (off + k) x) (by simp; omega)
    refine ⟨by rw [h1]; simp, fun j => ?_⟩
    rw [h2 j]
    by_cases hj : j = off + k
    · subst hj
      rw [if_neg (by omega), if_pos (by simp)]
      simp [Array.getD_eq_getD_getElem?, Array.getElem?_setIfInBounds, show off + k < arr.size by omega]
    · by_cases hlt : off + (k + 1) ≤ j ∧ j < off + (k + 1) + xs.length
      · rw [if_pos hlt, if_pos (by simp; omega)]
        have : j - (off + k) = (j - (off + (k + 1))) + 1 := by omega
        rw [this]; simp [List.getD_eq_getElem?_getD]
      · rw [if_neg hlt, if_neg (by simp; omega)]
        simp only [Array.getD_eq_getD_getElem?, Array.getElem?_setIfInBounds]
        rw [if_neg (fun e => hj e.symm)]

theorem RepL.splice {F : Frz} {cs : List SV} {arr : Array Value} (h : RepL F cs arr) {v : SV} {u : Value} (hv : RepS F v u) (hf : v.fit) {off n : Nat} (hn : v.cells.length = n) (ho : off + n ≤ cs.length) :
    RepL F (splice cs off v.cells) (u.cells.zipIdx.foldl (fun cs p => cs.setIfInBounds (off + p.2) p.1) arr) := by
  obtain ⟨c1, c2⟩ := cells_rep hv hf
  have hu : (u.cells.zipIdx.foldl (fun cs p => cs.setIfInBounds (off + p.2) p.1) arr) = (u.cells.toList.zipIdx 0).foldl (fun cs p => cs.setIfInBounds (off + p.2) p.1) arr := by
    rw [← Array.foldl_toList]; simp
  have hl : u.cells.toList.length = n := by rw [Array.length_toList, c1, hn]
  obtain ⟨h1, h2⟩ := foldl_splice u.cells.toList 0 off arr (by rw [hl, h.1]; omega)
  rw [hu]
  refine ⟨by rw [h1, h.1, splice_length (by omega)], fun j x hx => ?_⟩
  rw [splice_get (by omega)] at hx
  rw [h2 j, hl]
  simp only [Nat.add_zero]
  rw [hn] at hx
  split at hx
  · rename_i hc
    rw [if_pos hc]
    have := c2 _ x hx
    simpa [Array.getD_eq_getD_getElem?, List.getD_eq_getElem?_getD] using this
  · rename_i hc
    rw [if_neg hc]
    exact h.2 j x hx

/-- A literal's parts are laid in. -/
theorem fill_rep (place : Nat → Option (Nat × Nat)) {F : Frz} : ∀ (l : List (Nat × Value)) (ps : List (Nat × Nat × SV)) (cs : List SV) (arr : Array Value) (r : List SV), l.length = ps.length →
    (∀ (j : Nat) (p : Nat × Value) (p' : Nat × Nat × SV), l[j]? = some p → ps[j]? = some p' → place p.1 = some (p'.1, p'.2.1) ∧ RepS F p'.2.2 p.2 ∧ p'.2.2.fit) → RepL F cs arr → fillS cs ps = some r →
    ∃ arr', Instr.fill place arr l = some arr' ∧ RepL F r arr'
  | [], [], cs, arr, r, _, _, h, hr => by
    simp only [fillS, Option.some.injEq] at hr; subst hr
    exact ⟨arr, rfl, h⟩
  | [], _ :: _, _, _, _, hl, _, _, _ => by simp at hl
  | _ :: _, [], _, _, _, hl, _, _, _ => by simp at hl
  | (i, v) :: l, (off, n, x) :: ps, cs, arr, r, hl, hp, h, hr => by
    obtain ⟨p1, p2, p3⟩ := hp 0 _ _ rfl rfl
    simp only at p1 p2 p3
    simp only [fillS] at hr
    split at hr <;> try (simp at hr; done)
    rename_i hc
    obtain ⟨c1, _⟩ := cells_rep p2 p3
    have h' := h.splice p2 p3 hc.1 hc.2
    obtain ⟨arr', k1, k2⟩ := fill_rep place l ps _ _ r (by simpa using hl) (fun j p p' hj hj' => hp (j + 1) p p' (by simpa using hj) (by simpa using hj')) h' hr
    refine ⟨arr', ?_, k2⟩
    simp only [Instr.fill, p1]
    rw [if_neg]
    · exact k1
    · have h1 := h.1
      rw [hc.1] at c1
      simp only [c1, ne_eq, not_true_eq_false, decide_false, Bool.false_or, decide_eq_true_eq]
      omega

theorem RepL.agg {F : Frz} {cs : List SV} {arr : Array Value} (h : RepL F cs arr) : RepS F (.agg cs) (.agg arr) := .agg cs arr h.1 (fun j x hx => (h.2 j x hx).1) (fun j x hx => (h.2 j x hx).2)

theorem run_mapM {α β : Type} (g : α → Sem β) (h : α → β) : ∀ l : List α, (∀ x ∈ l, (g x).run P w = .ok (h x) w) → (l.mapM g).run P w = .ok (l.map h) w
  | [], _ => rfl
  | x :: l, hx => by
    rw [List.mapM_cons]
    simp only [Sem.run_bind, hx x (by simp), Result.andThen_ok, run_mapM g h l (fun y hy => hx y (by simp [hy])), List.map_cons]
    rfl

theorem run_mapM_arr {α β : Type} (g : α → Sem β) (h : α → β) (l : Array α) (hx : ∀ x ∈ l.toList, (g x).run P w = .ok (h x) w) : (l.mapM g).run P w = .ok (l.map h) w := by
  rw [Array.mapM_eq_mapM_toList]
  have := run_mapM (w := w) g h l.toList hx
  simp [this]
  apply Array.ext'
  simp

theorem sinks_parts {parts : List (Nat × Operand)} {g : Nat × Operand → Option (Nat × Nat × Opd)} {l : List (Nat × Nat × Opd)} (hl : allSome (parts.map g) = some l) (hg : ∀ p r, g p = some r → opd p.2 = some r.2.2) :
    allSome ((parts.map (·.2)).map opd) = some (l.map (·.2.2)) := by
  induction parts generalizing l with
  | nil => simp only [List.map_nil, allSome, Option.some.injEq] at hl; subst hl; rfl
  | cons p ps ih =>
    simp only [List.map_cons] at hl
    cases hp : g p with
    | none => rw [hp] at hl; simp [allSome] at hl
    | some r =>
      rw [hp] at hl
      simp only [allSome] at hl
      split at hl <;> simp only [Option.some.injEq, reduceCtorEq] at hl
      rename_i ys hys
      subst hl
      simp only [List.map_cons, hg p r hp, allSome, ih hys]

theorem keepNil_length : ∀ (as : List AV) (vs : List SV), (keepNil as vs).length = vs.length
  | [], vs => by cases vs <;> rfl
  | a :: as, [] => rfl
  | a :: as, v :: vs => by simp only [keepNil, List.length_cons, keepNil_length as vs]

theorem keepNil_at : ∀ (as : List AV) (vs : List SV) (j : Nat) (x : SV), (keepNil as vs)[j]? = some x → vs[j]? = some x ∨ ((x = .nilS ∨ x = .nil0) ∧ as[j]? = some (.sv x) ∧ j < vs.length)
  | [], vs, j, x, h => .inl (by cases vs <;> exact h)
  | a :: as, [], j, x, h => .inl h
  | a :: as, v :: vs, 0, x, h => by
    simp only [keepNil, List.getElem?_cons_zero, Option.some.injEq] at h
    split at h
    · subst h; exact .inr ⟨.inl rfl, rfl, by simp⟩
    · subst h; exact .inr ⟨.inr rfl, rfl, by simp⟩
    · exact .inl (by simp [h])
  | a :: as, v :: vs, j + 1, x, h => by
    simp only [keepNil, List.getElem?_cons_succ] at h
    rcases keepNil_at as vs j x h with h | ⟨h1, h2, h3⟩
    · exact .inl (by simpa using h)
    · exact .inr ⟨h1, by simpa using h2, by simp; omega⟩

/-- A literal of a struct or an array: what is left out is zero. -/
theorem op_build (hR : R P γ a w s) (hG : GlobOK E γ) {t : TypeId} {parts : Array (Nat × Operand)} {z : List SV} {d : TypeDesc} {g : Nat × Operand → Option (Nat × Nat × Opd)} {place : Nat → Option (Nat × Nat)} {l : List (Nat × Nat × Opd)}
    (ho : o.op = .build t parts) (hz : zeroSV P t = some z) (hl : allSome (parts.toList.map g) = some l) (hg : ∀ p r, g p = some r → opd p.2 = some r.2.2 ∧ place p.1 = some (r.1, r.2.1))
    (hrun : ∀ (zv : Value) (i : TypeInfo), P.info? t = some i → i.zero = some zv → ∀ (vs : Array (Nat × Value)) (cells : Array Value), Instr.fill place zv.cells vs.toList = some cells → (Instr.build t vs).run P w = .ok (.agg cells) w)
    (h : stepV E cf q o.dst s (.build z l) = some (av, s1)) : Done P γ a w o av s1 := by
  simp only [stepV] at h
  split at h <;> try (simp at h; done)
  rename_i vs s2 hvs
  split at h <;> simp only [Option.some.injEq, Prod.mk.injEq, reduceCtorEq] at h
  rename_i cs hcs
  obtain ⟨rfl, rfl⟩ := h
  obtain ⟨i, zv, h1, h2, h3, h4⟩ := zero_rep hz
  obtain ⟨γ', k1, k2, k3, k4, k5, k6⟩ := sinks_ok (parts.toList.map (·.2)) _ γ s vs s2 (sinks_parts hl (fun p r hp => (hg p r hp).1)) hR hG hvs
  have hlen : l.length = parts.toList.length := by have := (allSome_spec hl).1; simpa using this
  have hvl0 : vs.length = parts.toList.length := by rw [k3]; simp
  have hvl := (keepNil_length (l.map fun p => p.2.2.ev E s) vs).trans hvl0
  have k4' : ∀ (j : Nat) (x : SV) (o : Operand), (keepNil (l.map fun p => p.2.2.ev E s) vs)[j]? = some x → (parts.toList.map (·.2))[j]? = some o → RepS γ'.F x (a.eval o) ∧ x.fit := by
    intro j x o hx ho'
    rcases keepNil_at _ _ j x hx with h5 | ⟨hxn, h6, h7⟩
    · exact k4 j x o h5 ho'
    · rw [List.getElem?_map] at h6
      obtain ⟨q, hq, hqe⟩ := Option.map_eq_some_iff.1 h6
      have hl0 := (allSome_spec hl).2 j q hq
      rw [List.getElem?_map] at hl0 ho'
      obtain ⟨p1, hp1, hgp⟩ := Option.map_eq_some_iff.1 hl0
      rw [hp1] at ho'
      simp only [Option.map_some, Option.some.injEq] at ho'
      subst ho'
      have hr1 := ev_rep hR hG (hg p1 q hgp).1
      rw [hqe] at hr1
      exact ⟨hr1.sv_inv.mono k2.F, .inl (by rcases hxn with rfl | rfl <;> rfl)⟩
  generalize keepNil (l.map fun p => p.2.2.ev E s) vs = vs2 at *
  obtain ⟨arr, f1, f2⟩ := fill_rep (F := γ'.F) place (parts.toList.map fun p => (p.1, a.eval p.2)) _ z zv.cells cs (by simp [hlen, hvl]) (fun j p p' hp hp' => by
    rw [List.getElem?_map] at hp hp'
    obtain ⟨p0, hp0, rfl⟩ := Option.map_eq_some_iff.1 hp
    obtain ⟨⟨x0, v0⟩, hx0, rfl⟩ := Option.map_eq_some_iff.1 hp'
    rw [List.getElem?_zip_eq_some] at hx0
    have hl0 := (allSome_spec hl).2 j x0 hx0.1
    rw [List.getElem?_map] at hl0
    obtain ⟨p1, hp1, hgp⟩ := Option.map_eq_some_iff.1 hl0
    have : p1 = p0 := by rw [hp0] at hp1; exact (Option.some.inj hp1).symm
    subst this
    obtain ⟨q1, q2⟩ := k4' j v0 p1.2 hx0.2 (by rw [List.getElem?_map, hp0]; rfl)
    exact ⟨(hg p1 x0 hgp).2, q1, q2⟩) ⟨h3, h4 γ'.F⟩ hcs
  refine ⟨.agg arr, w, γ', .inl ?_, k2, k1, .sv _ _ _ f2.agg⟩
  simp only [execOp, ho]
  have := hrun zv i h1 h2 (parts.map fun p => (p.1, a.eval p.2)) arr (by simpa using f1)
  simp only [Sem.run_bind]
  rw [this]
  rfl

theorem build_struct {t : TypeId} {fs : Array Field} (ht : P.underlying t = some (.struct fs)) (hall : fs.toList.all (fun f => (P.info? f.type).isSome) = true) (zv : Value) (i : TypeInfo) (h1 : P.info? t = some i) (h2 : i.zero = some zv)
    (vs : Array (Nat × Value)) (cells : Array Value) (hf : Instr.fill (fun j : Nat => (fs[j]?).map fun f : Field => (f.offset, P.cellsOf f.type)) zv.cells vs.toList = some cells) : (Instr.build t vs).run P w = .ok (.agg cells) w := by
  have hm := run_mapM_arr (P := P) (w := w) (fun f : Field => do pure (f.offset, ← sizeOf f.type)) (fun f => (f.offset, P.cellsOf f.type)) fs (fun f hf => by
    rw [List.all_eq_true] at hall
    have := hall f hf
    cases hi : P.info? f.type with
    | none => rw [hi] at this; simp at this
    | some i => simp [sizeOf, typeInfo, hi, Program.cellsOf])
  have hp : (fun j : Nat => (fs.map fun f : Field => (f.offset, P.cellsOf f.type))[j]?) = (fun j : Nat => (fs[j]?).map fun f : Field => (f.offset, P.cellsOf f.type)) := by
    funext j; simp
  simp only [Instr.build, Sem.run_bind, zeroValue, typeInfo, run_program, Result.andThen_ok, h1, h2, run_underlying ht]
  simp only [h2, Sem.run_pure, Result.andThen_ok, hm, hp, hf]

theorem build_array {t e : TypeId} {n : Nat} {ie : TypeInfo} (ht : P.underlying t = some (.array n e)) (he : P.info? e = some ie) (zv : Value) (i : TypeInfo) (h1 : P.info? t = some i) (h2 : i.zero = some zv)
    (vs : Array (Nat × Value)) (cells : Array Value) (hf : Instr.fill (fun j => some (j * ie.size, ie.size)) zv.cells vs.toList = some cells) : (Instr.build t vs).run P w = .ok (.agg cells) w := by
  simp only [Instr.build, Sem.run_bind, zeroValue, typeInfo, run_program, Result.andThen_ok, h1, h2, run_underlying ht]
  simp [sizeOf, typeInfo, he, hf, h2]

end Go.Ev

set_option linter.unusedSimpArgs false
set_option linter.unusedVariables false
namespace Go.Ev
variable {P : Program} {E : Env} {γ : Gh} {a : Act} {w : World} {s : St} {o : Oper} {cf : CallF} {q : Bool} {s1 : St} {av : AV}

theorem fold_cells (u : Value) (off : Nat) (arr : Array Value) : (u.cells.zipIdx.foldl (fun cs p => cs.setIfInBounds (off + p.2) p.1) arr) = (u.cells.toList.zipIdx 0).foldl (fun cs p => cs.setIfInBounds (off + p.2) p.1) arr := by
  rw [← Array.foldl_toList]; simp

/-- Parts one behind the other. -/
theorem fill_seq {k : Nat} : ∀ (us : List Value) (i0 : Nat) (arr : Array Value), (∀ u ∈ us, u.cells.size = k) → (i0 + us.length) * k ≤ arr.size →
    ∃ arr', Instr.fill (fun i => some (i * k, k)) arr ((List.range' i0 us.length).zip us) = some arr' ∧ arr'.size = arr.size ∧
      (∀ j, j < i0 * k → arr'.getD j undef = arr.getD j undef) ∧ ∀ (i : Nat) (u : Value), us[i]? = some u → ∀ j, j < k → arr'.getD ((i0 + i) * k + j) undef = u.cells.getD j undef
  | [], i0, arr, _, _ => ⟨arr, rfl, rfl, fun _ _ => rfl, by simp⟩
  | u :: us, i0, arr, hk, hl => by
    have hku := hk u (by simp)
    have hl1 : (i0 + 1 + us.length) * k ≤ arr.size := by simpa [Nat.add_comm, Nat.add_left_comm, Nat.add_assoc] using hl
    have hl0 : i0 * k + k ≤ arr.size := by
      have : (i0 + 1) * k ≤ (i0 + 1 + us.length) * k := Nat.mul_le_mul_right _ (by omega)
      rw [Nat.add_mul, Nat.one_mul] at this; omega
    obtain ⟨f1, f2⟩ := foldl_splice u.cells.toList 0 (i0 * k) arr (by simp [hku]; omega)
    rw [← fold_cells] at f1 f2
    simp only [Nat.add_zero, Array.length_toList, hku] at f2
    obtain ⟨arr', g1, g2, g3, g4⟩ := fill_seq us (i0 + 1) (u.cells.zipIdx.foldl (fun cs p => cs.setIfInBounds (i0 * k + p.2) p.1) arr) (fun v hv => hk v (by simp [hv])) (by rw [f1]; exact hl1)
    refine ⟨arr', ?_, by rw [g2, f1], fun j hj => ?_, fun i v hv j hj => ?_⟩
    · simp only [List.length_cons, List.range'_succ, List.zip_cons_cons, Instr.fill]
      rw [if_neg]
      · exact g1
      · simp only [hku, ne_eq, not_true_eq_false, decide_false, Bool.false_or, decide_eq_true_eq]; omega
    · rw [g3 j (by rw [Nat.add_mul]; omega), f2 j, if_neg (by omega)]
    · cases i with
      | zero =>
        simp only [List.getElem?_cons_zero, Option.some.injEq] at hv; subst hv
        rw [Nat.add_zero, g3 _ (by rw [Nat.add_mul]; omega), f2, if_pos (by omega)]
        simp [Array.getD_eq_getD_getElem?, List.getD_eq_getElem?_getD]
      | succ i =>
        have := g4 i v (by simpa using hv) j hj
        rw [show i0 + (i + 1) = i0 + 1 + i from by omega]; exact this

theorem uni_spec {k : Nat} {xs : List SV} (h : uni k xs = true) : ∀ x ∈ xs, x.cells.length = k := by
  intro x hx
  simp only [uni, List.all_eq_true, beq_iff_eq] at h
  exact h x hx

/-- A new block that is owned. -/
theorem R.own_new (hR : R P γ a w s) {e : Nat} {xs : List SV} {vs : List Value} {u : Value} {w' : World} (hos : w'.os = w.os) (hta : w'.tape = w.tape) (hou : w'.output = w.output) (hsz : w.heap.size ≤ w'.heap.size)
    (hbl : ∀ b, b < w.heap.size → w'.heap[b]? = w.heap[b]?) (hO : w'.ownsRow 0 e (P.cellsOf e) u xs.length vs) (hk : 0 < P.cellsOf e) (hl : ∀ x ∈ xs, x.cells.length = P.cellsOf e)
    (hr : ∀ (j : Nat) (x : SV), (flat xs)[j]? = some x → x.one = true ∧ ∃ v, vs[j]? = some v ∧ RepS γ.F x v) {g : Nat} (hg : u.ownBlock = some g) (hgs : w.heap.size ≤ g) :
    ∃ γ', Fresh γ w γ' w' ∧ R P γ' a w' s ∧ RepO P γ' w' .ret e xs u := by
  have hcells : ∀ (j : Nat) (v : Value), vs[j]? = some v → w'.cell? ⟨g, j, none⟩ = some v := fun j v hv => by
    have := hO.cells hg j v hv
    rw [add_none, Nat.zero_add] at this
    exact this
  have hglt : g < w'.heap.size := by have := (hO.lt g hg).2; exact this
  let γ' : Gh := { γ with F := fun b o v => γ.F b o v ∨ (b = g ∧ vs[o]? = some v), ow := fun b => if b = g then some .ret else γ.ow b }
  have hf : Fresh γ w γ' w' := by
    refine ⟨hos, hta, hou, hsz, hbl, fun _ _ _ h => .inl h, fun b o v hb h => ?_, fun b o v h => ?_, rfl, rfl, fun b hb => ?_, fun b ℓ hb ho => ?_⟩
    · rcases h with h | ⟨rfl, _⟩
      · exact h
      · omega
    · rcases h with h | ⟨rfl, h⟩
      · have hc := hR.bx.Fw _ _ _ h
        exact (World.cell?_of_block (w := w) (hbl b (lt_of_cell hc))).trans hc
      · exact hcells o v h
    · show (if b = g then _ else _) = _
      rw [if_neg (by omega)]
    · simp only [γ'] at ho
      split at ho
      · rename_i e'; subst e'
        simp only [Option.some.injEq] at ho
        exact ⟨hglt, ho.symm⟩
      · have := (hR.bx.ow b ℓ ho).1; omega
  have hnF : ∀ o v, ¬ γ.F g o v := fun o v h => by have := lt_of_cell (hR.bx.Fw _ _ _ h); omega
  refine ⟨γ', hf, hf.R hR, vs, g, hO, hk, hl, fun j x hx => ?_, hg, by simp [γ'], fun j v hv => .inr ⟨rfl, hv⟩, fun j v hv => ?_⟩
  · obtain ⟨h1, v, h2, h3⟩ := hr j x hx
    exact ⟨h1, v, h2, h3.mono (fun _ _ _ h => .inl h)⟩
  · rcases hv with h | ⟨_, h⟩
    · exact absurd h (hnF _ _)
    · exact (List.getElem?_eq_some_iff.1 h).1

/-- Values one behind the other in an array. -/
theorem rep_flat {F : Frz} {k : Nat} (hk : 0 < k) {xs : List SV} (hl : ∀ x ∈ xs, x.cells.length = k) {us : List Value} (hul : us.length = xs.length) (hr : ∀ (j : Nat) (x : SV) (u : Value), xs[j]? = some x → us[j]? = some u → RepS F x u ∧ x.fit)
    {vs : List Value} (hvl : vs.length = xs.length * k) (hv : ∀ (i : Nat) (u : Value), us[i]? = some u → ∀ j, j < k → vs[i * k + j]? = some (u.cells.getD j undef)) :
    ∀ (j : Nat) (x : SV), (flat xs)[j]? = some x → x.one = true ∧ ∃ v, vs[j]? = some v ∧ RepS F x v := by
  intro j x hx
  have hj : j < xs.length * k := by rw [← flat_length hl]; exact (List.getElem?_eq_some_iff.1 hx).1
  have hdiv : j / k < xs.length := by rw [Nat.div_lt_iff_lt_mul hk]; exact hj
  have hmod : j % k < k := Nat.mod_lt _ hk
  have hjj : j / k * k + j % k = j := by rw [Nat.mul_comm]; exact Nat.div_add_mod j k
  have h1 : xs[j / k]? = some xs[j / k] := by simp [hdiv]
  have h2 : us[j / k]? = some (us[j / k]'(by omega)) := by simp [show j / k < us.length by omega]
  obtain ⟨r1, r2⟩ := hr _ _ _ h1 h2
  obtain ⟨c1, c2⟩ := cells_rep r1 r2
  have hf := flat_get hl h1 hmod
  rw [hjj] at hf
  rw [hf] at hx
  obtain ⟨d1, d2⟩ := c2 _ x hx
  refine ⟨d1, _, ?_, d2⟩
  have := hv _ _ h2 _ hmod
  rw [hjj] at this
  exact this

theorem keepAgg_length : ∀ (as : List AV) (vs : List SV), (keepAgg as vs).length = vs.length
  | [], vs => by cases vs <;> rfl
  | a :: as, [] => rfl
  | a :: as, v :: vs => by simp only [keepAgg, List.length_cons, keepAgg_length as vs]

theorem keepAgg_at : ∀ (as : List AV) (vs : List SV) (j : Nat) (x : SV), (keepAgg as vs)[j]? = some x → vs[j]? = some x ∨ ∃ cs, x = .agg cs ∧ as[j]? = some (.sv x) ∧ j < vs.length
  | [], vs, j, x, h => by cases vs <;> exact .inl h
  | a :: as, [], j, x, h => .inl h
  | a :: as, v :: vs, 0, x, h => by
    simp only [keepAgg, List.getElem?_cons_zero, Option.some.injEq] at h
    subst h
    split
    · exact .inr ⟨_, rfl, by simp, by simp⟩
    · exact .inl (by simp)
  | a :: as, v :: vs, j + 1, x, h => by
    simp only [keepAgg, List.getElem?_cons_succ] at h
    rcases keepAgg_at as vs j x h with h | ⟨cs, h1, h2, h3⟩
    · exact .inl (by simpa using h)
    · exact .inr ⟨cs, h1, by simpa using h2, by simpa using h3⟩

theorem keepMu_length (q : Bool) (mu : List Nat) (e : Nat) (as : List AV) (vs : List SV) : (keepMu q mu e as vs).length = vs.length := by
  unfold keepMu
  cases q with
  | true => rfl
  | false => simp only; split; exact keepAgg_length as vs; rfl

theorem keepMu_at (q : Bool) (mu : List Nat) (e : Nat) (as : List AV) (vs : List SV) (j : Nat) (x : SV) (h : (keepMu q mu e as vs)[j]? = some x) : vs[j]? = some x ∨ ∃ cs, x = .agg cs ∧ as[j]? = some (.sv x) ∧ j < vs.length := by
  unfold keepMu at h
  cases q with
  | true => exact .inl h
  | false =>
    simp only at h
    split at h
    · exact keepAgg_at as vs j x h
    · exact .inl h

theorem op_mkSl (hR : R P γ a w s) (hG : GlobOK E γ) {t e : TypeId} {n k b : Nat} {parts : Array (Nat × Operand)} {l : List Opd} (ho : o.op = .buildSlice t n parts) (ht : P.underlying t = some (.slice e)) (hs : sizeB P e = some (k, b)) (hl : allSome (parts.toList.map fun p => opd p.2) = some l)
    (hr : parts.toList.map (·.1) = List.range n) (hn : n * k ≤ 16777216) (hk : 0 < k) (hz : zeroOK P e = true) (h : stepV E cf q o.dst s (.mkSl e k l) = some (av, s1)) : Done P γ a w o av s1 := by
  simp only [stepV] at h
  split at h <;> try (simp at h; done)
  rename_i vs0 s2 hvs
  split at h <;> simp only [Option.some.injEq, Prod.mk.injEq, reduceCtorEq] at h
  rename_i hu
  obtain ⟨rfl, rfl⟩ := h
  have hlen := uni_spec hu
  obtain ⟨γ1, k1, k2, k30, k40, k5, k6⟩ := sinks_ok (parts.toList.map (·.2)) l γ s vs0 s2 (by rw [List.map_map]; exact hl) hR hG hvs
  have k3 := (keepMu_length q s.mu e (l.map (Opd.ev E s)) vs0).trans k30
  have k4 : ∀ (j : Nat) (x : SV) (o : Operand), (keepMu q s.mu e (l.map (Opd.ev E s)) vs0)[j]? = some x → (parts.toList.map (·.2))[j]? = some o → RepS γ1.F x (a.eval o) ∧ x.fit := by
    intro j x o hx ho'
    rcases keepMu_at _ _ _ _ _ j x hx with h5 | ⟨cs, rfl, h6, h7⟩
    · exact k40 j x o h5 ho'
    · rw [List.getElem?_map] at h6
      obtain ⟨y, hy, hye⟩ := Option.map_eq_some_iff.1 h6
      obtain ⟨g1, g2⟩ := allSome_spec hl
      have g3 := g2 j y hy
      rw [List.getElem?_map] at g3
      obtain ⟨p, hp, hpo⟩ := Option.map_eq_some_iff.1 g3
      rw [List.getElem?_map, hp] at ho'
      simp only [Option.map_some, Option.some.injEq] at ho'
      subst ho'
      have := ev_rep hR hG hpo
      rw [hye] at this
      exact ⟨this.sv_inv.mono k2.F, .inr ⟨cs, rfl⟩⟩
  generalize keepMu q s.mu e (l.map (Opd.ev E s)) vs0 = vs at *
  have hpl : parts.toList.length = n := by have := congrArg List.length hr; simpa using this
  have hvl : vs.length = n := by rw [k3]; simpa using hpl
  simp only [sizeB, Option.map_eq_some_iff, Prod.mk.injEq] at hs
  obtain ⟨ie, hie, hsz, hby⟩ := hs
  unfold zeroOK at hz
  rw [hie] at hz
  simp only at hz
  split at hz <;> try (simp at hz; done)
  rename_i zv hzv
  have hzs : zv.cells.size = k := by rw [← hsz]; simpa using hz
  have hke : P.cellsOf e = k := by simp [Program.cellsOf, hie, hsz]
  let us : List Value := parts.toList.map fun p => a.eval p.2
  have hul : us.length = n := by simp [us]; exact hpl
  have hreps : ∀ (j : Nat) (x : SV) (u : Value), vs[j]? = some x → us[j]? = some u → RepS γ1.F x u ∧ x.fit := by
    intro j x u hx hu'
    simp only [us, List.getElem?_map] at hu'
    obtain ⟨p, hp, rfl⟩ := Option.map_eq_some_iff.1 hu'
    exact k4 j x p.2 hx (by rw [List.getElem?_map, hp]; rfl)
  have husz : ∀ u ∈ us, u.cells.size = k := by
    intro u hu'
    obtain ⟨j, hj⟩ := List.getElem?_of_mem hu'
    have hjl : j < vs.length := by rw [hvl, ← hul]; exact (List.getElem?_eq_some_iff.1 hj).1
    obtain ⟨r1, r2⟩ := hreps j vs[j] u (by simp [hjl]) hj
    rw [(cells_rep r1 r2).1]
    exact hlen _ (by simp)
  obtain ⟨arr, f1, f2, f3, f4⟩ := fill_seq (k := k) us 0 ((Array.range (n * k)).map (zv.cells[· % zv.cells.size]!)) husz (by simp [hul])
  have hparts : (parts.map fun p => (p.1, a.eval p.2)).toList = (List.range' 0 us.length).zip us := by
    apply List.ext_getElem?
    intro j
    simp only [Array.toList_map, List.getElem?_map]
    by_cases hj : j < n
    · have hj' : j < parts.toList.length := by rw [hpl]; exact hj
      have h1 : parts.toList[j]? = some parts.toList[j] := by simp [hj']
      have h2 : (parts.toList.map (·.1))[j]? = some j := by rw [hr]; simp [hj]
      rw [List.getElem?_map, h1] at h2
      simp only [Option.map_some, Option.some.injEq] at h2
      rw [h1]
      simp only [Option.map_some]
      symm
      rw [List.getElem?_zip_eq_some]
      refine ⟨?_, ?_⟩
      · rw [← List.range_eq_range', List.getElem?_range (by rw [hul]; exact hj), h2]
      · simp only [us, List.getElem?_map, h1, Option.map_some]
    · rw [List.getElem?_eq_none (by rw [hpl]; omega), List.getElem?_eq_none (by simp [hul]; omega)]
      rfl
  have hsize : arr.size = n * k := by rw [f2]; simp
  have hrun : (execOp a.eval o).run P w = .ok (.value (.slice (some ⟨w.heap.size, 0, none⟩) n n)) (w.alloc (.cells arr e)) := by
    simp only [execOp, ho]
    have hz2 : ∀ (K : Array Value → Sem Value), ((if n * k = 0 then pure #[] else do pure (← zeroValue e).cells : Sem (Array Value)) >>= K).run P w = (K (if n * k = 0 then #[] else zv.cells)).run P w := by
      intro K
      by_cases h0 : n * k = 0
      · simp only [h0, if_true, pure_bind]
      · simp [h0, zeroValue, typeInfo, hie, hzv]
    have hfill : Instr.fill (fun i => some (i * k, k)) ((Array.range (n * k)).map ((if n * k = 0 then #[] else zv.cells)[· % (if n * k = 0 then #[] else zv.cells).size]!)) (parts.map fun p => (p.1, a.eval p.2)).toList = some arr := by
      rw [hparts]
      by_cases h0 : n * k = 0
      · have hn0 : n = 0 := by rcases Nat.mul_eq_zero.1 h0 with h | h <;> omega
        have : us = [] := List.eq_nil_of_length_eq_zero (by rw [hul, hn0])
        rw [this] at f1 ⊢
        simp only [List.length_nil, List.range'_zero, List.zip_nil_right, Instr.fill, Option.some.injEq] at f1 ⊢
        rw [← f1]
        apply Array.ext'
        simp [h0]
      · simp only [h0, if_false]; exact f1
    have hnk : ¬ n * k > 2 ^ 24 := by omega
    have hb : (Instr.buildSlice t n (parts.map fun p => (p.1, a.eval p.2))).run P w = .ok (.slice (some ⟨w.heap.size, 0, none⟩) n n) (w.alloc (.cells arr e)) := by
      have hd : Instr.buildSlice t n (parts.map fun p => (p.1, a.eval p.2)) = (do
          let .slice elem ← underlying t | stuck "buildSlice: slice type expected"
          let size ← sizeOf elem
          if n * size > 2 ^ 24 then unsupported (.resourceLimit "buildSlice: more than 2^24 cells")
          let zero ← if n * size = 0 then pure #[] else do pure (← zeroValue elem).cells
          let some cells := Instr.fill (fun i => some (i * size, size)) ((Array.range (n * size)).map (zero[· % zero.size]!)) (parts.map fun p => (p.1, a.eval p.2)).toList
            | stuck "buildSlice: a part of the wrong size"
          pure (.slice (some (← newRow elem cells)) n n)) := rfl
      rw [hd]
      simp only [Sem.run_bind, run_underlying ht, Result.andThen_ok, sizeOf, typeInfo, run_program, hie, Sem.run_pure, hsz, if_neg hnk]
      by_cases h0 : n * k = 0
      · simp only [h0, if_true] at hfill ⊢
        simp only [pure_bind, hfill]
        simp [newRow]
      · simp only [h0, if_false] at hfill ⊢
        simp only [zeroValue, typeInfo, Sem.run_bind, run_program, Result.andThen_ok, hie, Sem.run_pure, hzv, hfill]
        simp [newRow]
    simp only [Sem.run_bind, hb, Result.andThen_ok]
    rfl
  have hO : (w.alloc (.cells arr e)).ownsRow 0 e (P.cellsOf e) (.slice (some ⟨w.heap.size, 0, none⟩) n n) vs.length arr.toList := by
    rw [hke, hvl]
    refine ⟨by simp [hsize], .inr ⟨w.heap.size, n, arr, rfl, Nat.zero_le _, heap_alloc_new w _, Nat.le_refl _, ?_, hsize, ?_⟩⟩
    · simp only [maxLen]
      have := Nat.le_mul_of_pos_right n hk
      omega
    · rw [List.take_of_length_le (by simp [hsize])]
  have hflat := rep_flat (F := γ1.F) hk hlen (us := us) (by rw [hul, hvl]) hreps (vs := arr.toList) (by simp [hsize, hvl]) (fun i u hu' j hj => by
    have := f4 i u hu' j hj
    rw [Nat.zero_add] at this
    have hi : i < n := by rw [← hul]; exact (List.getElem?_eq_some_iff.1 hu').1
    have hlt : i * k + j < arr.size := by
      rw [hsize]
      have h3 : (i + 1) * k ≤ n * k := Nat.mul_le_mul_right _ hi
      rw [Nat.add_mul] at h3; omega
    simp only [Array.getD_eq_getD_getElem?, Array.getElem?_eq_getElem hlt, Option.getD_some] at this
    simp [hlt, this, Array.getD_eq_getD_getElem?])
  obtain ⟨γ2, g1, g2, g3⟩ := R.own_new (P := P) k1 (w' := w.alloc (.cells arr e)) rfl rfl rfl (by simp) (fun b hb => heap_alloc_old w _ b hb) hO (by rw [hke]; exact hk) (by rw [hke]; exact hlen) hflat rfl (Nat.le_refl _)
  have hfin : RepA P γ2 (w.alloc (.cells arr e)) .ret (mkSlA q e vs) (.slice (some ⟨w.heap.size, 0, none⟩) n n) := by
    cases q with
    | true => exact .own _ _ _ _ g3
    | false =>
      cases vs with
      | nil =>
        obtain rfl : n = 0 := by simpa using hvl.symm
        exact .sv _ _ _ (.nil0 _)
      | cons x l => exact .own _ _ _ _ g3
  exact ⟨_, _, γ2, .inl hrun, k2.trans g1.ext, g2, hfin⟩

end Go.Ev

set_option linter.unusedSimpArgs false
set_option linter.unusedVariables false
namespace Go.Ev
variable {P : Program} {E : Env} {γ : Gh} {a : Act} {w : World} {s : St} {o : Oper} {cf : CallF} {q : Bool} {s1 : St} {av : AV}

theorem R.mvRet (hR : R P γ a w s) (ℓ : Loc) : R P (γ.mv .ret ℓ) a w s where
  bx := hR.bx.mv (by simp)
  sz := hR.sz
  tm := fun t ht => (hR.tm t ht).mv_other (by simp)
  lz := fun d ℓ' hd => by
    have := hR.lz d ℓ' hd
    cases ℓ' <;> exact this
  dl := hR.dl
  df := fun i d c hd hc => by
    exact hR.df i d c hd hc

theorem run_storeCells_free (g o : Nat) (t : TypeId) (m : Nat × Nat) : ∀ (vs : List Value) (i : Nat) (cur : Array Value) (w : World), w.heap[g]? = some (.cells cur t m) → (∀ j, o + i ≤ j → j < o + i + vs.length → ¬ (m.1 ≤ j ∧ j < m.2)) → o + i + vs.length ≤ cur.size → (∀ v ∈ vs, v.oneCell' = true) →
    (storeCells ⟨g, o, none⟩ vs i).run P w = .ok () (w.setRow g (cur.toList.take (o + i) ++ vs ++ cur.toList.drop (o + i + vs.length)).toArray)
  | [], i, cur, w, hg, _, _, _ => by
    simp only [storeCells, List.append_nil, List.length_nil, Nat.add_zero, List.take_append_drop, Array.toArray_toList]
    rw [setRow_self w g cur t m hg]
    rfl
  | v :: rest, i, cur, w, hg, hfz, hl, h1 => by
    have hi : o + i < cur.size := by simp at hl; omega
    have hadd : (⟨g, o, none⟩ : Addr).add i = ⟨g, o + i, none⟩ := by unfold Addr.add; split <;> simp_all
    have hcell : w.cell? ⟨g, o + i, none⟩ = some cur[o + i] := by simp [World.cell?, hg, hi]
    have hfro : w.frozen? ⟨g, o + i, none⟩ = false := by
      have := hfz (o + i) (Nat.le_refl _) (by simp)
      obtain ⟨lo, hi'⟩ := m
      simp only [World.frozen?, hg, Bool.and_eq_false_iff, decide_eq_false_iff_not]
      simp only at this
      omega
    have hst : (store ((⟨g, o, none⟩ : Addr).add i) v).run P w = .ok () (w.setRow g (cur.setIfInBounds (o + i) v)) := by
      rw [hadd, run_store P w _ v _ (h1 v (by simp)), hcell]
      simp [hfro, setCell_eq_setRow w g (o + i) cur t m v hg]
    have ih := run_storeCells_free g o t m rest (i + 1) (cur.setIfInBounds (o + i) v) (w.setRow g (cur.setIfInBounds (o + i) v)) (setRow_heap w g cur _ t _ hg) (fun j h2 h3 => hfz j (by omega) (by simp at h3 ⊢; omega)) (by simp at hl ⊢; omega) (fun x hx => h1 x (by simp [hx]))
    simp only [storeCells, Sem.run_bind, hst, Result.andThen_ok, ih, setRow_setRow]
    congr 3
    have e := list_seg_step cur.toList (o + i) v rest (by simp at hl ⊢; omega)
    simpa [Array.toList_setIfInBounds, Nat.add_assoc] using e

theorem R.setBox (hR : R P γ a w s) {i blk : Nat} {cs cs' : List Cell} {arr arr' : Array Value} {t : TypeId} {m : Nat × Nat} (hi : s.bx[i]? = some (.live cs)) (hk : γ.β[i]? = some blk) (hh : w.heap[blk]? = some (.cells arr t m))
    (hsz : arr'.size = arr.size) (hs : cs'.length ≤ arr'.size) (hm : Free m cs'.length) (hr : ∀ (j : Nat) (c : Cell), cs'[j]? = some c → RepC P γ w i j c (arr'.getD j undef)) :
    R P γ a (w.setRow blk arr') { s with bx := s.bx.set i (.live cs'), lz := none } ∧ Ext γ w γ (w.setRow blk arr') := by
  have hilt : i < s.bx.length := (List.getElem?_eq_some_iff.1 hi).1
  have hblkβ : blk ∈ γ.β := List.mem_of_getElem? hk
  have hog : ∀ g ℓ, γ.ow g = some ℓ → g ≠ blk := fun g ℓ h e => (hR.bx.ow g ℓ h).2 (e ▸ hblkβ)
  obtain ⟨_, _, _, _, _, _, hnF⟩ := hR.bx.box i _ blk hi hk
  have hk1 : ∀ g ℓ, γ.ow g = some ℓ → (w.setRow blk arr').heap[g]? = w.heap[g]? ∧ (∀ j v, γ.F g j v → γ.F g j v) ∧ γ.ow g = some ℓ := fun g ℓ h => ⟨setRow_other w blk g arr' (hog g ℓ h), fun _ _ h => h, h⟩
  refine ⟨⟨⟨by simp [hR.bx.len], ?_, nodup_set hR.bx.nodup hi (by simp), ?_, fun b ℓ hb => ?_, fun b e c hsh => ?_⟩, hR.sz, fun t' ht => (hR.tm t' ht).keep (fun _ _ _ h => h) (fun _ _ h => h) (fun g _ hg => hk1 g _ hg), by simp, hR.dl, ?_⟩, ?_⟩
  · intro i' b' blk' hi' hk'
    rw [List.getElem?_set] at hi'
    split at hi'
    · rename_i e
      subst e
      simp only [hilt, if_true, Option.some.injEq] at hi'
      subst hi'
      have : blk' = blk := by have h := hk'.symm.trans hk; simpa using h
      subst this
      exact ⟨arr', t, m, setRow_heap w blk' arr arr' t m hh, ⟨hs, hm⟩, fun j c hc => (hr j c hc).keep (fun _ _ _ h => h) (fun g _ hg => hk1 g _ hg) (fun _ _ h => h), hnF⟩
    · rename_i e
      by_cases hne : blk' = blk
      · subst hne
        have := other_dead hR.bx.nodup hi (by simp) hk hi' hk' (fun h => e h.symm)
        subst this
        exact dead_rep (by simpa using heap_lt hh)
      · exact (hR.bx.box i' b' blk' hi' hk').keep (fun _ _ _ h => h) (setRow_other w blk blk' arr' hne) (fun _ _ h => h) (fun g j hg => hk1 g _ hg) (fun _ _ h => h)
  · intro b' o' v hF
    rw [cell_setRow_other w blk arr' _ (fun e : b' = blk => hnF o' v (e ▸ hF))]
    exact hR.bx.Fw _ _ _ hF
  · obtain ⟨k1, k2⟩ := hR.bx.ow b ℓ hb
    exact ⟨by simpa using k1, k2⟩
  · obtain ⟨q1, cur, q2, q3, q4⟩ := hR.bx.sh b e c hsh
    refine ⟨q1, ?_⟩
    by_cases eb : b = blk
    · subst eb
      rw [hh] at q2
      simp only [Option.some.injEq, Obj.cells.injEq] at q2
      obtain ⟨rfl, rfl, rfl⟩ := q2
      exact ⟨arr', setRow_heap w b arr arr' _ _ hh, by rw [hsz]; exact q3, q4⟩
    · exact ⟨cur, (setRow_other w blk b arr' eb).trans q2, q3, q4⟩
  · intro j d c hd hc
    exact hR.df j d c hd hc
  · exact ⟨rfl, rfl, rfl, by simp, fun _ _ _ h => h, ⟨[], by simp, by simp⟩, fun b hb => setRow_other w blk b arr' (fun e => hb.2.1 (e ▸ hblkβ)), fun _ _ _ _ h => h, fun b hb => hb.2.2, fun _ _ h => h⟩

/-- A pointer in a cell, as one that can be shared: the memory is the same. -/
theorem tidy1_ok (hR : R P γ a w s) (i off j o : Nat) : ∃ γ', R P γ' a w (tidy1 s i off j o) ∧ Ext γ w γ' w ∧ (tidy1 s i off j o).tm = s.tm ∧ (tidy1 s i off j o).df = s.df ∧ γ'.β = γ.β := by
  have triv : ∃ γ', R P γ' a w s ∧ Ext γ w γ' w ∧ s.tm = s.tm ∧ s.df = s.df ∧ γ'.β = γ.β := ⟨γ, hR, Ext.refl _ _, rfl, rfl, rfl⟩
  unfold tidy1
  split
  rotate_left
  · exact triv
  rename_i w0 s' hsk
  split
  rotate_left
  · exact triv
  rename_i cs hcs
  split
  rotate_left
  · exact triv
  rename_i j' o' hc
  split
  rotate_left
  · exact triv
  rename_i he
  obtain ⟨rfl, rfl⟩ := he
  have hj : j' < s.bx.length := by
    simp only [sink] at hsk
    split at hsk <;> simp only [Option.some.injEq, Prod.mk.injEq, reduceCtorEq] at hsk
    rename_i b hb
    exact (List.getElem?_eq_some_iff.1 hb).1
  have hone : w0.one = true := by
    simp only [sink] at hsk
    split at hsk <;> simp only [Option.some.injEq, Prod.mk.injEq, reduceCtorEq] at hsk
    rw [← hsk.1]; rfl
  obtain ⟨b, hb⟩ : ∃ b, γ.β[j']? = some b := ⟨γ.β[j']'(by rw [hR.bx.len]; exact hj), by simp [hR.bx.len, hj]⟩
  obtain ⟨γ1, g1, g2, g3, g4, g5, g6, g7⟩ := sink_ok hR (.ptr .ret j' o' b hb) hsk
  have hi : i < s'.bx.length := (List.getElem?_eq_some_iff.1 hcs).1
  obtain ⟨blk, hk⟩ : ∃ blk, γ1.β[i]? = some blk := ⟨γ1.β[i]'(by rw [g1.bx.len]; exact hi), by simp [g1.bx.len, hi]⟩
  obtain ⟨arr, t, m, k1, ⟨k2, kf⟩, k3, k4⟩ := g1.bx.box i _ blk hcs hk
  obtain ⟨b', e1, e2⟩ := k3 off _ hc
  rw [g7, hb] at e1
  simp only [Option.some.injEq] at e1
  subst e1
  have hset := g1.setBox (i := i) (blk := blk) (cs := cs) (cs' := cs.set off (.sv w0)) (arr := arr) (arr' := arr) hcs hk k1 rfl (by simpa using k2) (by simpa using kf) (fun q c hq => by
    rw [List.getElem?_set] at hq
    split at hq
    · rename_i e
      subst e
      split at hq <;> simp only [Option.some.injEq, reduceCtorEq] at hq
      subst hq
      exact ⟨hone, by rw [e2]; exact g3⟩
    · exact k3 q c hq)
  rw [setRow_self w blk arr t m k1] at hset
  exact ⟨γ1, hset.1, g2.trans hset.2, g5, g6, g7⟩

/-- A slice in a cell, as one that can be shared: the memory is the same. -/
theorem tidyR1_ok (hR : R P γ a w s) (i off j n k : Nat) : ∃ γ', R P γ' a w (tidyR1 s i off j n k) ∧ Ext γ w γ' w ∧ (tidyR1 s i off j n k).tm = s.tm ∧ (tidyR1 s i off j n k).df = s.df ∧ γ'.β = γ.β := by
  have triv : ∃ γ', R P γ' a w s ∧ Ext γ w γ' w ∧ s.tm = s.tm ∧ s.df = s.df ∧ γ'.β = γ.β := ⟨γ, hR, Ext.refl _ _, rfl, rfl, rfl⟩
  unfold tidyR1
  split
  rotate_left
  · exact triv
  rename_i w0 s' hsk
  split
  rotate_left
  · exact triv
  rename_i cs hcs
  split
  rotate_left
  · exact triv
  rename_i j' n' k' hc
  split
  rotate_left
  · exact triv
  rename_i he
  obtain ⟨rfl, rfl, rfl⟩ := he
  have hcs0 : s.bx[i]? = some (.live cs) ∧ w0.one = true := by
    simp only [sink] at hsk
    split at hsk <;> try (simp at hsk; done)
    split at hsk <;> try (simp at hsk; done)
    rename_i b hb
    split at hsk <;> simp only [Option.some.injEq, Prod.mk.injEq, reduceCtorEq] at hsk
    obtain ⟨e1, e2⟩ := hsk
    refine ⟨?_, by rw [← e1]; rfl⟩
    rw [← e2] at hcs
    simp only [List.getElem?_set] at hcs
    split at hcs
    · split at hcs <;> simp at hcs
    · exact hcs
  obtain ⟨hcs0, hone⟩ := hcs0
  have hi0 : i < s.bx.length := (List.getElem?_eq_some_iff.1 hcs0).1
  obtain ⟨blk, hk0⟩ : ∃ blk, γ.β[i]? = some blk := ⟨γ.β[i]'(by rw [hR.bx.len]; exact hi0), by simp [hR.bx.len, hi0]⟩
  obtain ⟨arr, t, m, q1, _, q3, _⟩ := hR.bx.box i _ blk hcs0 hk0
  obtain ⟨b, cap, hb, hcap, q4⟩ := q3 off _ hc
  obtain ⟨γ1, g1, g2, g3, g4, g5, g6, g7⟩ := sink_ok hR (.mrow .ret j' n' k' b cap hb hcap) hsk
  have hk : γ1.β[i]? = some blk := by rw [g7]; exact hk0
  obtain ⟨arr1, t1, m1, k1, ⟨k2, kf⟩, k3, k4⟩ := g1.bx.box i _ blk hcs hk
  have ha : arr1 = arr := by
    rw [q1] at k1
    simp only [Option.some.injEq, Obj.cells.injEq] at k1
    exact k1.1.symm
  subst ha
  have hset := g1.setBox (i := i) (blk := blk) (cs := cs) (cs' := cs.set off (.sv w0)) (arr := arr1) (arr' := arr1) hcs hk k1 rfl (by simpa using k2) (by simpa using kf) (fun q c hq => by
    rw [List.getElem?_set] at hq
    split at hq
    · rename_i e
      subst e
      split at hq <;> simp only [Option.some.injEq, reduceCtorEq] at hq
      subst hq
      exact ⟨hone, by rw [q4]; exact g3⟩
    · exact k3 q c hq)
  rw [setRow_self w blk arr1 t1 m1 k1] at hset
  exact ⟨γ1, hset.1, g2.trans hset.2, g5, g6, g7⟩

theorem tidyCs_ok (i : Nat) : ∀ (cs : List Cell) (off : Nat) (γ : Gh) (s : St), R P γ a w s → ∃ γ', R P γ' a w (tidyCs i off cs s) ∧ Ext γ w γ' w ∧ (tidyCs i off cs s).tm = s.tm ∧ (tidyCs i off cs s).df = s.df ∧ γ'.β = γ.β
  | [], _, γ, s, hR => ⟨γ, hR, Ext.refl _ _, rfl, rfl, rfl⟩
  | .sv _ :: cs, off, γ, s, hR => tidyCs_ok i cs (off + 1) γ s hR
  | .own _ _ :: cs, off, γ, s, hR => tidyCs_ok i cs (off + 1) γ s hR
  | .lrw j n k :: cs, off, γ, s, hR => by
    obtain ⟨γ1, h1, h2, h3, h4, h5⟩ := tidyR1_ok hR i off j n k
    obtain ⟨γ2, g1, g2, g3, g4, g5⟩ := tidyCs_ok i cs (off + 1) γ1 _ h1
    exact ⟨γ2, g1, h2.trans g2, g3.trans h3, g4.trans h4, g5.trans h5⟩
  | .lnk j o :: cs, off, γ, s, hR => by
    obtain ⟨γ1, h1, h2, h3, h4, h5⟩ := tidy1_ok hR i off j o
    obtain ⟨γ2, g1, g2, g3, g4, g5⟩ := tidyCs_ok i cs (off + 1) γ1 _ h1
    exact ⟨γ2, g1, h2.trans g2, g3.trans h3, g4.trans h4, g5.trans h5⟩

theorem tidyBs_ok : ∀ (bs : List Box) (i : Nat) (γ : Gh) (s : St), R P γ a w s → ∃ γ', R P γ' a w (tidyBs i bs s) ∧ Ext γ w γ' w ∧ (tidyBs i bs s).tm = s.tm ∧ (tidyBs i bs s).df = s.df ∧ γ'.β = γ.β
  | [], _, γ, s, hR => ⟨γ, hR, Ext.refl _ _, rfl, rfl, rfl⟩
  | .frz _ :: bs, i, γ, s, hR => tidyBs_ok bs (i + 1) γ s hR
  | .it _ _ :: bs, i, γ, s, hR => tidyBs_ok bs (i + 1) γ s hR
  | .live cs :: bs, i, γ, s, hR => by
    obtain ⟨γ1, h1, h2, h3, h4, h5⟩ := tidyCs_ok i cs 0 γ s hR
    obtain ⟨γ2, g1, g2, g3, g4, g5⟩ := tidyBs_ok bs (i + 1) γ1 _ h1
    exact ⟨γ2, g1, h2.trans g2, g3.trans h3, g4.trans h4, g5.trans h5⟩

theorem tidyIf_ok (b : Bool) (hR : R P γ a w s) : ∃ γ', R P γ' a w (s.tidyIf b) ∧ Ext γ w γ' w ∧ (s.tidyIf b).tm = s.tm ∧ (s.tidyIf b).df = s.df ∧ γ'.β = γ.β := by
  unfold St.tidyIf
  split
  · exact tidyBs_ok s.bx 0 γ s hR
  · exact ⟨γ, hR, Ext.refl _ _, rfl, rfl, rfl⟩

theorem run_storeAt {t : TypeId} {b o : Nat} {arr : Array Value} {ty : TypeId} {m : Nat × Nat} {v : Value} {i : TypeInfo} (hh : w.heap[b]? = some (.cells arr ty m)) (hm : ∀ j, o ≤ j → j < o + i.size → ¬ (m.1 ≤ j ∧ j < m.2)) (hi : P.info? t = some i) (hs : v.cells.size = i.size) (hf : o + i.size ≤ arr.size) (h1 : ∀ x ∈ v.cells.toList, x.oneCell' = true) :
    (Instr.storeAt t (.pointer (some ⟨b, o, none⟩)) v).run P w = .ok () (w.setRow b (arr.toList.take o ++ v.cells.toList ++ arr.toList.drop (o + i.size)).toArray) := by
  have hst := run_storeCells_free (P := P) b o ty m v.cells.toList 0 arr w hh (by simpa [hs] using hm) (by simp [hs]; omega) h1
  simp only [Nat.add_zero, Array.length_toList, hs] at hst
  simp [Instr.storeAt, Instr.sureAddr, storeVar, sizeOf, typeInfo, hi, hs, hst]

theorem own_opd {e : Nat} {xs : List SV} {x : Opd} (h : x.ev E s = .own e xs) : ∃ n, x = .t n ∧ n < s.tm.length ∧ s.rd n = .own e xs := by
  cases x with
  | t n =>
    refine ⟨n, rfl, Decidable.byContradiction fun hn => ?_, h⟩
    simp only [Opd.ev, St.rd, List.getD_eq_getElem?_getD] at h
    rw [List.getElem?_eq_none (by omega)] at h
    simp at h
  | c v => simp [Opd.ev] at h
  | g n => simp [Opd.ev] at h

theorem aggN_none {t : TypeId} (h : aggN P t = some none) : ∃ i, P.info? t = some i ∧ i.size = 1 := by
  unfold aggN at h
  split at h <;> try (simp at h; done)
  · split at h
    · rename_i hs; exact ⟨_, ‹_›, hs⟩
    · simp at h

theorem aggN_some {t : TypeId} {k : Nat} (h : aggN P t = some (some k)) : ∃ i, P.info? t = some i ∧ i.size = k := by
  unfold aggN at h
  split at h <;> try (simp at h; done)
  · simp only [Option.some.injEq] at h; exact ⟨_, ‹_›, h⟩
  · simp only [Option.some.injEq] at h; exact ⟨_, ‹_›, h⟩

theorem setCells_length : ∀ (vs : List SV) (cs : List Cell) (off : Nat), (setCells cs off vs).length = cs.length
  | [], _, _ => rfl
  | v :: vs, cs, off => by rw [setCells, setCells_length vs]; simp

theorem setCells_get : ∀ (vs : List SV) (cs : List Cell) (off : Nat), off + vs.length ≤ cs.length → ∀ j, (setCells cs off vs)[j]? = if off ≤ j ∧ j < off + vs.length then (vs[j - off]?).map .sv else cs[j]?
  | [], cs, off, _, j => by simp only [setCells, List.length_nil, Nat.add_zero]; rw [if_neg (by omega)]
  | v :: vs, cs, off, h, j => by
    simp only [List.length_cons] at h
    rw [setCells, setCells_get vs (cs.set off (.sv v)) (off + 1) (by simp; omega) j]
    simp only [List.length_cons]
    by_cases e : j = off
    · subst e
      rw [if_neg (by omega), if_pos (by omega), List.getElem?_set]
      have : j < cs.length := by omega
      simp [this]
    · by_cases h1 : off + 1 ≤ j ∧ j < off + 1 + vs.length
      · rw [if_pos h1, if_pos (by omega)]
        have : j - off = (j - (off + 1)) + 1 := by omega
        rw [this, List.getElem?_cons_succ]
      · rw [if_neg h1, if_neg (by omega), List.getElem?_set, if_neg (by omega)]

theorem splice_getD (l m : List Value) (o : Nat) (h : o + m.length ≤ l.length) (j : Nat) : ((l.take o ++ m ++ l.drop (o + m.length)).toArray).getD j undef = if o ≤ j ∧ j < o + m.length then m.getD (j - o) undef else l.getD j undef := by
  simp only [Array.getD_eq_getD_getElem?, List.getElem?_toArray, List.getD_eq_getElem?_getD]
  congr 1
  by_cases h1 : j < o
  · rw [if_neg (by omega), List.append_assoc, List.getElem?_append_left (by simp; omega), List.getElem?_take, if_pos h1]
  · by_cases h2 : j < o + m.length
    · rw [if_pos (by omega), List.append_assoc, List.getElem?_append_right (by simp; omega), List.getElem?_append_left (by simp; omega)]
      have e1 : (l.take o).length = o := by simp; omega
      rw [e1]
    · rw [if_neg (by omega), List.getElem?_append_right (by simp; omega), List.getElem?_drop]
      have e1 : (l.take o ++ m).length = o + m.length := by simp; omega
      have e2 : o + m.length + (j - (l.take o ++ m).length) = j := by rw [e1]; omega
      rw [e2]

/-- A store of one cell. -/
theorem R.store1 (hR : R P γ a w s) {i off blk : Nat} {cs : List Cell} (hi : s.bx[i]? = some (.live cs)) (hk : γ.β[i]? = some blk) (ho : off < cs.length) {c : Cell} {u : Value} (hc : RepC P γ w i off c u) (h1 : u.oneCell' = true) (hu : u.cells = #[u]) {t : TypeId} {inf : TypeInfo} (hinf : P.info? t = some inf) (hs : inf.size = 1) :
    ∃ w', (Instr.storeAt t (.pointer (some ⟨blk, off, none⟩)) u).run P w = .ok () w' ∧ R P γ a w' { s with bx := s.bx.set i (.live (cs.set off c)), lz := none } ∧ Ext γ w γ w' := by
  obtain ⟨arr, ty, m, k1, ⟨k2, kf⟩, k3, k4⟩ := hR.bx.box i _ blk hi hk
  refine ⟨_, run_storeAt k1 (fun j h1 h2 => kf j (by omega)) hinf (by rw [hu, hs]; rfl) (by rw [hs]; omega) (by rw [hu]; simpa using h1), ?_⟩
  rw [hu, hs]
  have hl : (arr.toList.take off ++ #[u].toList ++ arr.toList.drop (off + 1)).length = arr.size := by simp; omega
  refine hR.setBox hi hk k1 (by simp only [List.size_toArray, hl]) (by simp only [List.size_toArray, hl, List.length_set]; omega) (by simpa using kf) (fun j c' hc' => ?_)
  have hg := splice_getD arr.toList [u] off (by simp; omega) j
  simp only [List.length_singleton] at hg
  rw [hg]
  rw [List.getElem?_set] at hc'
  by_cases e : off = j
  · subst e
    simp only [if_true, ho, Option.some.injEq] at hc'
    subst hc'
    rw [if_pos (by omega)]
    simpa using hc
  · rw [if_neg e] at hc'
    rw [if_neg (by omega)]
    have := k3 j c' hc'
    simpa [Array.getD_eq_getD_getElem?, List.getD_eq_getElem?_getD] using this

theorem R.storeN (hR : R P γ a w s) {i off blk : Nat} {cs : List Cell} (hi : s.bx[i]? = some (.live cs)) (hk : γ.β[i]? = some blk) {vs : List SV} {us : Array Value} (hl : us.size = vs.length) (ho : off + vs.length ≤ cs.length)
    (hr : ∀ (j : Nat) (x : SV), vs[j]? = some x → x.one = true ∧ RepS γ.F x (us.getD j undef)) {t : TypeId} {inf : TypeInfo} (hinf : P.info? t = some inf) (hs : inf.size = vs.length) :
    ∃ w', (Instr.storeAt t (.pointer (some ⟨blk, off, none⟩)) (.agg us)).run P w = .ok () w' ∧ R P γ a w' { s with bx := s.bx.set i (.live (setCells cs off vs)), lz := none } ∧ Ext γ w γ w' := by
  obtain ⟨arr, ty, m, k1, ⟨k2, kf⟩, k3, k4⟩ := hR.bx.box i _ blk hi hk
  have hone : ∀ x ∈ us.toList, x.oneCell' = true := by
    intro x hx
    obtain ⟨j, hj⟩ := List.getElem?_of_mem hx
    have hlt : j < us.size := by have := (List.getElem?_eq_some_iff.1 hj).1; simpa using this
    have hjv : j < vs.length := by omega
    obtain ⟨h1, h2⟩ := hr j vs[j] (by simp [hjv])
    have : us.getD j undef = x := by
      simp only [Array.getElem?_toList] at hj
      simp [Array.getD_eq_getD_getElem?, hj]
    rw [this] at h2
    exact h2.oneCell h1
  refine ⟨_, run_storeAt k1 (fun j h1 h2 => kf j (by omega)) hinf (by simp [Value.cells, hs, hl]) (by rw [hs]; omega) (by simpa [Value.cells] using hone), ?_⟩
  have hcl : (Value.agg us).cells = us := rfl
  rw [hcl, hs]
  have hul : us.toList.length = vs.length := by simpa using hl
  refine hR.setBox hi hk k1 (by simp; omega) (by rw [setCells_length]; simp; omega) (by rw [setCells_length]; exact kf) (fun j c' hc' => ?_)
  have hg := splice_getD arr.toList us.toList off (by simp; omega) j
  rw [hul] at hg
  rw [hg]
  rw [setCells_get vs cs off ho j] at hc'
  by_cases e : off ≤ j ∧ j < off + vs.length
  · rw [if_pos e] at hc'
    rw [if_pos e]
    obtain ⟨x, hx, rfl⟩ := Option.map_eq_some_iff.1 hc'
    have := hr _ x hx
    simpa [Array.getD_eq_getD_getElem?, List.getD_eq_getElem?_getD, RepC] using this
  · rw [if_neg e] at hc'
    rw [if_neg e]
    have := k3 j c' hc'
    simpa [Array.getD_eq_getD_getElem?, List.getD_eq_getElem?_getD] using this

theorem op_store (hR : R P γ a w s) (hG : GlobOK E γ) {t : TypeId} {n : Option Nat} {p v : Operand} {p' v' : Opd} (ho : o.op = .store t p v) (hp : opd p = some p') (hv : opd v = some v') (hn : aggN P t = some n)
    (h : stepV E cf q o.dst s (.store n p' v') = some (av, s1)) : Done P γ a w o av s1 := by
  have hpr := ev_rep hR hG hp
  have hvr := ev_rep hR hG hv
  simp only [stepV] at h
  split at h <;> simp only [Option.some.injEq, Prod.mk.injEq, reduceCtorEq] at h
  rename_i s2 hst
  obtain ⟨rfl, rfl⟩ := h
  have key : ∃ w' γ', (Instr.storeAt t (a.eval p) (a.eval v)).run P w = .ok () w' ∧ Ext γ w γ' w' ∧ R P γ' a w' s2 := by
    unfold doStore at hst
    split at hst <;> try (simp at hst; done)
    rename_i i off hpe
    rw [hpe] at hpr
    generalize hpv : a.eval p = pv at hpr
    cases hpr with
    | ptr _ _ blk hblk =>
    split at hst <;> try (simp at hst; done)
    rename_i cs hcs
    split at hst
    · obtain ⟨inf, hinf, hsz⟩ := aggN_none hn
      split at hst <;> try (simp at hst; done)
      rename_i hoff
      split at hst <;> try (simp at hst; done)
      · rename_i e xs hown
        simp only [Option.some.injEq] at hst
        subst hst
        obtain ⟨m, rfl, hm, hrd⟩ := own_opd hown
        obtain ⟨r1, r2⟩ := hR.disown hm
        cases v with
        | tmp tt =>
          simp only [opd, Option.some.injEq, Opd.t.injEq] at hv
          subst hv
          rw [hrd] at r2
          have r3 := r1.mvRet (.cell i off)
          have r4 := RepA.mv_same (ℓ' := .cell i off) r2
          have hbx : (s.disown tt).bx = s.bx := by unfold St.disown; split <;> rfl
          cases r4 with
          | own _ _ _ hO =>
            obtain ⟨w', e1, e2, e3⟩ := r3.store1 (i := i) (off := off) (blk := blk) (cs := cs) (by rw [hbx]; exact hcs) (by simpa [Gh.mv] using hblk) hoff (c := .own e xs) hO (RepS.oneCell hO.rep rfl) (RepS.cells_one hO.rep rfl) hinf hsz
            refine ⟨w', _, e1, ((Gh.mv_ext _ _ _ _).trans (Gh.mv_ext _ _ _ _)).trans e3, ?_⟩
            rw [hbx] at e2
            exact e2
        | const c => simp only [opd, Option.map_eq_some_iff] at hv; obtain ⟨_, _, h⟩ := hv; simp at h
        | global g => simp [opd] at hv
        | func f => simp [opd] at hv
      · rename_i x hx1 hx2 hx3 hx4 hve
        simp only [Option.some.injEq] at hst
        subst hst
        rw [hve] at hvr
        have hone : x.one = true := by cases x <;> first | rfl | exact absurd rfl (hx1 _) | exact absurd rfl (hx2 _) | exact absurd rfl hx3 | exact absurd rfl hx4
        obtain ⟨w', e1, e2, e3⟩ := hR.store1 (i := i) (off := off) (blk := blk) (cs := cs) hcs hblk hoff (c := .sv x) (u := a.eval v) ⟨hone, hvr.sv_inv⟩ (hvr.sv_inv.oneCell hone) (hvr.sv_inv.cells_one hone) hinf hsz
        exact ⟨w', _, e1, e3, e2⟩
      · rename_i j o' hve
        by_cases hlk : s.lk = true
        · rw [if_pos hlk] at hst
          simp only [Option.some.injEq] at hst
          subst hst
          rw [hve] at hvr
          generalize a.eval v = uv at hvr ⊢
          cases hvr with
          | ptr _ _ b2 hb2 =>
            obtain ⟨w', e1, e2, e3⟩ := hR.store1 (i := i) (off := off) (blk := blk) (cs := cs) hcs hblk hoff (c := .lnk j o') (u := .pointer (some ⟨b2, o', none⟩)) ⟨b2, hb2, rfl⟩ rfl rfl hinf hsz
            exact ⟨w', _, e1, e3, e2⟩
        rw [if_neg hlk] at hst
        split at hst <;> try (simp at hst; done)
        rename_i x s' hsk
        split at hst <;> try (simp at hst; done)
        rename_i cs' hcs'
        split at hst <;> simp only [Option.some.injEq, reduceCtorEq] at hst
        rename_i hoff'
        subst hst
        rw [hve] at hvr
        have hone : x.one = true := by
          simp only [sink] at hsk
          split at hsk <;> simp only [Option.some.injEq, Prod.mk.injEq, reduceCtorEq] at hsk
          rw [← hsk.1]; rfl
        obtain ⟨γ1, g1, g2, g3, g4, g5, g6, g7⟩ := sink_ok hR hvr hsk
        obtain ⟨w', e1, e2, e3⟩ := g1.store1 (i := i) (off := off) (blk := blk) (cs := cs') hcs' (by rw [g7]; exact hblk) hoff' (c := .sv x) (u := a.eval v) ⟨hone, g3⟩ (g3.oneCell hone) (g3.cells_one hone) hinf hsz
        exact ⟨w', _, e1, g2.trans e3, e2⟩
      · rename_i j n2 k2 hve
        split at hst <;> simp only [Option.some.injEq, reduceCtorEq] at hst
        subst hst
        rw [hve] at hvr
        generalize a.eval v = uv at hvr ⊢
        cases hvr with
        | mrow _ _ _ b2 c2 hb2 hc2 =>
          obtain ⟨w', e1, e2, e3⟩ := hR.store1 (i := i) (off := off) (blk := blk) (cs := cs) hcs hblk hoff (c := .lrw j n2 k2) (u := .slice (some ⟨b2, 0, none⟩) n2 c2) ⟨b2, c2, hb2, hc2, rfl⟩ rfl rfl hinf hsz
          exact ⟨w', _, e1, e3, e2⟩
      · rename_i j n2 k2 e2 hve
        split at hst <;> simp only [Option.some.injEq, reduceCtorEq] at hst
        subst hst
        rw [hve] at hvr
        generalize a.eval v = uv at hvr ⊢
        cases hvr with
        | grw _ _ _ _ b2 c2 hb2 _ hc2 _ _ =>
          obtain ⟨w', e1, e2, e3⟩ := hR.store1 (i := i) (off := off) (blk := blk) (cs := cs) hcs hblk hoff (c := .lrw j n2 k2) (u := .slice (some ⟨b2, 0, none⟩) n2 c2) ⟨b2, c2, hb2, hc2, rfl⟩ rfl rfl hinf hsz
          exact ⟨w', _, e1, e3, e2⟩
    · rename_i k
      obtain ⟨inf, hinf, hsz⟩ := aggN_some hn
      split at hst <;> try (simp at hst; done)
      rename_i vs hve
      split at hst <;> simp only [Option.some.injEq, reduceCtorEq] at hst
      rename_i hlen
      subst hst
      rw [hve] at hvr
      obtain ⟨us, hu, hs, h1, h2⟩ := hvr.sv_inv.agg_inv
      rw [hu]
      obtain ⟨w', e1, e2, e3⟩ := hR.storeN (i := i) (off := off) (blk := blk) (cs := cs) hcs hblk (vs := vs) (us := us) hs (by rw [hlen.1]; exact hlen.2) (fun j x hx => ⟨h1 j x hx, h2 j x hx⟩) hinf (by rw [hsz, hlen.1])
      exact ⟨w', _, e1, e3, e2⟩
  obtain ⟨w', γ', k1, k2, k3⟩ := key
  refine ⟨undef, w', γ', .inr ⟨?_, rfl⟩, k2, k3, .sv _ _ _ (.undef _)⟩
  simp only [execOp, ho, Sem.run_bind, k1, Result.andThen_ok]
  rfl

theorem linkAt_rep (hb : BoxesOK P γ w s.bx) {ℓ : Loc} {u : Value} (h : RepA P γ w ℓ av u) {n : Option Nat} {v : AV} (e : linkAt s n av = some v) :
    n = none ∧ v.isOwn = false ∧ ∃ (b off : Nat) (x : Value), u = .pointer (some ⟨b, off, none⟩) ∧ w.cell? ⟨b, off, none⟩ = some x ∧ RepA P γ w .ret v x := by
  unfold linkAt at e
  split at e <;> try (simp at e; done)
  rename_i i off
  refine ⟨rfl, ?_⟩
  cases h with
  | ptr _ _ blk hblk =>
    split at e <;> try (simp at e; done)
    rename_i cs hcs
    obtain ⟨arr, t, m, k1, ⟨k2, _⟩, k3, _⟩ := hb.box i _ blk hcs hblk
    split at e <;> simp only [Option.some.injEq, reduceCtorEq] at e
    · rename_i j o hc
      subst e
      obtain ⟨b, e1, e2⟩ := k3 _ _ hc
      have hlt : off < arr.size := by have := (List.getElem?_eq_some_iff.1 hc).1; omega
      refine ⟨rfl, blk, off, _, rfl, ?_, .ptr _ _ _ b e1⟩
      rw [cell_of_row w blk off arr t m k1, ← e2]
      simp [Array.getD_eq_getD_getElem?, Array.getElem?_eq_getElem hlt]
    · rename_i j n k hc
      subst e
      obtain ⟨b, c, e1, e3, e2⟩ := k3 _ _ hc
      have hlt : off < arr.size := by have := (List.getElem?_eq_some_iff.1 hc).1; omega
      refine ⟨rfl, blk, off, _, rfl, ?_, .mrow _ _ _ _ b c e1 e3⟩
      rw [cell_of_row w blk off arr t m k1, ← e2]
      simp [Array.getD_eq_getD_getElem?, Array.getElem?_eq_getElem hlt]

theorem tidyAt_ok (q : Bool) (n : Option Nat) (p : AV) (hR : R P γ a w s) : ∃ γ', R P γ' a w (tidyAt q s n p) ∧ Ext γ w γ' w ∧ (tidyAt q s n p).tm = s.tm ∧ (tidyAt q s n p).df = s.df ∧ γ'.β = γ.β := by
  have triv : ∃ γ', R P γ' a w s ∧ Ext γ w γ' w ∧ s.tm = s.tm ∧ s.df = s.df ∧ γ'.β = γ.β := ⟨γ, hR, Ext.refl _ _, rfl, rfl, rfl⟩
  unfold tidyAt
  split
  rotate_left
  · exact triv
  split
  · split
    · exact tidyCs_ok _ _ 0 γ s hR
    · exact triv
  · exact triv

theorem tidyHead_ok : ∀ (os : List SOp) (γ : Gh) (s : St), R P γ a w s → ∃ γ', R P γ' a w (tidyHead os s) ∧ Ext γ w γ' w ∧ (tidyHead os s).tm = s.tm ∧ (tidyHead os s).df = s.df ∧ γ'.β = γ.β
  | [], γ, s, hR => ⟨γ, hR, Ext.refl _ _, rfl, rfl, rfl⟩
  | o :: os, γ, s, hR => by
    simp only [tidyHead]
    split
    · rename_i k t _
      obtain ⟨γ1, h1, h2, h3, h4, h5⟩ := tidyAt_ok false (some k) (s.rd t) hR
      obtain ⟨γ2, g1, g2, g3, g4, g5⟩ := tidyHead_ok os γ1 _ h1
      exact ⟨γ2, g1, h2.trans g2, g3.trans h3, g4.trans h4, g5.trans h5⟩
    · exact tidyHead_ok os γ s hR

theorem tidyHeadIf_ok (os : List SOp) (hR : R P γ a w s) : ∃ γ', R P γ' a w (if s.lk then tidyHead os s else s) ∧ Ext γ w γ' w := by
  split
  · obtain ⟨γ1, h1, h2, _⟩ := tidyHead_ok os γ s hR
    exact ⟨γ1, h1, h2⟩
  · exact ⟨γ, hR, Ext.refl _ _⟩

theorem op_load (hR : R P γ a w s) (hG : GlobOK E γ) {t : TypeId} {n : Option Nat} {x : Operand} {x' : Opd} (ho : o.op = .load t x) (hn : aggN P t = some n) (hx : opd x = some x')
    (h : stepV E cf q o.dst s (.load n x') = some (av, s1)) : Done P γ a w o av s1 := by
  simp only [stepV] at h
  split at h
  · rename_i v hv
    simp only [Option.some.injEq, Prod.mk.injEq] at h
    obtain ⟨rfl, rfl⟩ := h
    obtain ⟨rfl, h1, b, off, u, hu, hc, hr⟩ := linkAt_rep hR.bx (ev_rep hR hG hx) hv
    obtain ⟨g1, _⟩ := run_isAgg (P := P) (w := w) hn
    refine Done.same hR ?_ hr h1
    simp only [execOp, ho, hu]
    simp [Instr.loadAt, Instr.sureAddr, loadVar, g1, hc]
  · obtain ⟨γ2, hR2, he2, htm, hdf, hβ⟩ := tidyAt_ok q n (x'.ev E s) hR
    split at h <;> try (simp at h; done)
    rename_i cs hcs
    split at h <;> try (simp at h; done)
    rename_i v hvv
    simp only [Option.some.injEq, Prod.mk.injEq] at h
    obtain ⟨rfl, rfl⟩ := h
    have hxr := ev_rep hR2 (hG.mono he2.F) hx
    rw [ev_of_tm htm] at hxr
    obtain ⟨b, off, vs, hu, hc⟩ := cellsAt_rep hR2.bx hxr hcs
    obtain ⟨u, k1, k2⟩ := run_loadVar (P := P) (w := w) hn hc hvv
    refine ⟨u, w, γ2, .inl ?_, he2, hR2, .sv _ _ _ k2⟩
    simp only [execOp, ho, hu]
    simp [Instr.loadAt, Instr.sureAddr, k1]

end Go.Ev
