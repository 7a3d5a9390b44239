/- New boxes, literals, stores. -/
/- Slices' literals, stores, function values. -/
/- Stores. -/
/- Function values, bytes and strings, new rows, what is deferred. -/
import Derived.Test.YtkpjijiiegdcaaaGreatDoorMab
import Derived.Laws.IdiomStrings
import Derived.Laws.BytesArg
import Derived.Laws.MakeOwn
set_option linter.unusedSimpArgs false
set_option linter.unusedVariables false
namespace Go.Ev
variable {P : Program} {E : Env} {γ : Gh} {a : Act} {w : World} {s : St} {o : Oper} {cf : CallF} {q : Bool} {s1 : St} {av : AV}

theorem allSome_spec {α : Type} : ∀ {l : List (Option α)} {r : List α}, allSome l = some r → r.length = l.length ∧ ∀ j : Nat, ∀ x, r[j]? = some x → l[j]? = some (some x)
  | [], r, h => by simp only [allSome, Option.some.injEq] at h; subst h; simp
  | none :: l, r, h => by simp [allSome] at h
  | some x :: l, r, h => by
    simp only [allSome] at h
    split at h <;> simp only [Option.some.injEq, reduceCtorEq] at h
    rename_i r' hr'
    subst h
    obtain ⟨h1, h2⟩ := allSome_spec hr'
    refine ⟨by simp [h1], fun j y hy => ?_⟩
    cases j with
    | zero => simpa using hy
    | succ j => simpa using h2 j y (by simpa using hy)

theorem constSV_one {v : Value} {x : SV} (h : constSV v = some x) : x.one = true := by
  unfold constSV at h
  split at h <;> simp only [Option.some.injEq, reduceCtorEq] at h <;> subst h <;> rfl

theorem zero_rep {t : TypeId} {z : List SV} (h : zeroSV P t = some z) : ∃ i zv, P.info? t = some i ∧ i.zero = some zv ∧ zv.cells.size = z.length ∧
    ∀ F (j : Nat) (x : SV), z[j]? = some x → x.one = true ∧ RepS F x (zv.cells.getD j undef) := by
  unfold zeroSV at h
  split at h <;> try (simp at h; done)
  rename_i i hi
  split at h <;> try (simp at h; done)
  rename_i zv hz
  obtain ⟨h1, h2⟩ := allSome_spec h
  refine ⟨i, zv, hi, hz, by simpa using h1.symm, fun F j x hx => ?_⟩
  have := h2 j x hx
  rw [List.getElem?_map] at this
  obtain ⟨v, hv, hc⟩ := Option.map_eq_some_iff.1 this
  have hv' : zv.cells[j]? = some v := by simpa using hv
  refine ⟨constSV_one hc, ?_⟩
  simp only [Array.getD_eq_getD_getElem?, hv', Option.getD_some]
  exact constSV_rep hc

theorem op_new (hR : R P γ a w s) (hG : GlobOK E γ) {t : TypeId} {z : List SV} (ho : o.op = .alloc t) (hz : zeroSV P t = some z)
    (h : stepV E cf q o.dst s (.new z) = some (av, s1)) : Done P γ a w o av s1 := by
  simp only [stepV] at h
  split at h <;> simp only [Option.some.injEq, Prod.mk.injEq, reduceCtorEq] at h
  obtain ⟨rfl, rfl⟩ := h
  obtain ⟨i, zv, h1, h2, h3, h4⟩ := zero_rep hz
  obtain ⟨γ', k1, k2, k3, _⟩ := hR.push zv.cells t z h3 (h4 γ.F)
  refine ⟨.pointer (some ⟨w.heap.size, 0, none⟩), _, γ', .inl ?_, k2, k1, .ptr _ _ _ _ k3⟩
  simp only [execOp, ho]
  simp [Instr.alloc, zeroValue, typeInfo, h1, h2, newVar, newRow]

/-- The cells of what can be shared. -/
theorem cells_rep {F : Frz} {v : SV} {u : Value} (h : RepS F v u) (hf : v.fit) : u.cells.size = v.cells.length ∧ ∀ (j : Nat) (x : SV), v.cells[j]? = some x → x.one = true ∧ RepS F x (u.cells.getD j undef) := by
  rcases hf with hf | ⟨cs, rfl⟩
  · rw [SV.cells_one hf, h.cells_one hf]
    refine ⟨rfl, fun j x hx => ?_⟩
    cases j with
    | zero => simp at hx; subst hx; exact ⟨hf, h⟩
    | succ j => simp at hx
  · obtain ⟨vs, rfl, h1, h2, h3⟩ := h.agg_inv
    exact ⟨h1, fun j x hx => ⟨h2 j x hx, h3 j x hx⟩⟩

theorem fit_of {v : SV} (h1 : v ≠ .undef) (h3 : v ≠ .off) (h2 : ∀ l, v ≠ .tup l) : v.fit := by
  cases v <;> first | exact absurd rfl h1 | exact absurd rfl h3 | exact absurd rfl (h2 _) | exact .inl rfl | exact .inr ⟨_, rfl⟩

theorem op_box (hR : R P γ a w s) (hG : GlobOK E γ) {t : TypeId} {i : TypeInfo} {x : Operand} {x' : Opd} (ho : o.op = .box t x) (hi : P.info? t = some i) (hx : opd x = some x')
    (h : stepV E cf q o.dst s (.box i.size x') = some (av, s1)) : Done P γ a w o av s1 := by
  have hv := ev_rep hR hG hx
  simp only [stepV] at h
  split at h <;> try (simp at h; done)
  have hrun : (execOp a.eval o).run P w = .ok (.value (.pointer (some ⟨w.heap.size, 0, none⟩))) (w.alloc (.cells (a.eval x).cells t)) := by
    simp only [execOp, ho]
    simp [Instr.box, newVar, newRow]
  split at h
  · simp at h
  · simp at h
  · simp at h
  · rename_i v hn1 hn3 hn2 hv'
    split at h <;> simp only [Option.some.injEq, Prod.mk.injEq, reduceCtorEq] at h
    rename_i hlen
    obtain ⟨rfl, rfl⟩ := h
    rw [hv'] at hv
    obtain ⟨c1, c2⟩ := cells_rep hv.sv_inv (fit_of hn1 hn3 hn2)
    obtain ⟨γ', k1, k2, k3, _⟩ := hR.push (a.eval x).cells t v.cells c1 c2
    exact ⟨_, _, γ', .inl hrun, k2, k1, .ptr _ _ _ _ k3⟩
  · rename_i e xs hv'
    split at h <;> simp only [Option.some.injEq, Prod.mk.injEq, reduceCtorEq] at h
    obtain ⟨rfl, rfl⟩ := h
    rw [hv'] at hv
    cases hv with
    | own _ _ _ hO =>
      obtain ⟨c1, c2⟩ := cells_rep hO.rep (.inl rfl)
      obtain ⟨γ', k1, k2, k3, _⟩ := hR.push (a.eval x).cells t [.sl xs] c1 c2
      exact ⟨_, _, γ', .inl hrun, k2, k1, .ptr _ _ _ _ k3⟩
  · simp at h

/-- Cells that stand for values, one by one. -/
def RepL (F : Frz) (cs : List SV) (arr : Array Value) : Prop := arr.size = cs.length ∧ ∀ (j : Nat) (x : SV), cs[j]? = some x → x.one = true ∧ RepS F x (arr.getD j undef)

theorem splice_length {cs vs : List SV} {off : Nat} (h : off + vs.length ≤ cs.length) : (splice cs off vs).length = cs.length := by simp [splice]; omega

theorem splice_get {cs vs : List SV} {off : Nat} (h : off + vs.length ≤ cs.length) (j : Nat) : (splice cs off vs)[j]? = if off ≤ j ∧ j < off + vs.length then vs[j - off]? else cs[j]? := by
  unfold splice
  by_cases h1 : j < off
  · rw [List.append_assoc, List.getElem?_append_left (by simp; omega), List.getElem?_take, if_pos h1, if_neg (by omega)]
  · by_cases h2 : j < off + vs.length
    · rw [List.getElem?_append_left (by simp; omega), List.getElem?_append_right (by simp; omega), if_pos (by omega)]
      congr 1; simp; omega
    · rw [List.getElem?_append_right (by simp; omega), List.getElem?_drop, if_neg (by omega)]
      congr 1; simp; omega

theorem foldl_splice (news : List Value) : ∀ (k off : Nat) (arr : Array Value), off + k + news.length ≤ arr.size →
    ((news.zipIdx k).foldl (fun cs p => cs.setIfInBounds (off + p.2) p.1) arr).size = arr.size ∧
    ∀ j, ((news.zipIdx k).foldl (fun cs p => cs.setIfInBounds (off + p.2) p.1) arr).getD j undef = if off + k ≤ j ∧ j < off + k + news.length then news.getD (j - (off + k)) undef else arr.getD j undef := by
  induction news with
  | nil => intro k off arr h; simp; intro j h1 h2; omega
  | cons x xs ih =>
    intro k off arr h
    simp only [List.length_cons] at h
    simp only [List.zipIdx_cons, List.foldl_cons]
    obtain ⟨h1, h2⟩ := ih (k + 1) off (arr.setIfInBounds (off + k) x) (by simp; omega)
    refine ⟨by rw [h1]; simp, fun j => ?_⟩
    rw [h2 j]
    by_cases hj : j = off + k
    · subst hj
      rw [if_neg (by omega), if_pos (by simp)]
      simp [Array.getD_eq_getD_getElem?, Array.getElem?_setIfInBounds, show off + k < arr.size by omega]
    · by_cases hlt : off + (k + 1) ≤ j ∧ j < off + (k + 1) + xs.length
      · rw [if_pos hlt, if_pos (by simp; omega)]
        have : j - (off + k) = (j - (off + (k + 1))) + 1 := by omega
        rw [this]; simp [List.getD_eq_getElem?_getD]
      · rw [if_neg hlt, if_neg (by simp; omega)]
        simp only [Array.getD_eq_getD_getElem?, Array.getElem?_setIfInBounds]
        rw [if_neg (fun e => hj e.symm)]

theorem RepL.splice {F : Frz} {cs : List SV} {arr : Array Value} (h : RepL F cs arr) {v : SV} {u : Value} (hv : RepS F v u) (hf : v.fit) {off n : Nat} (hn : v.cells.length = n) (ho : off + n ≤ cs.length) :
    RepL F (splice cs off v.cells) (u.cells.zipIdx.foldl (fun cs p => cs.setIfInBounds (off + p.2) p.1) arr) := by
  obtain ⟨c1, c2⟩ := cells_rep hv hf
  have hu : (u.cells.zipIdx.foldl (fun cs p => cs.setIfInBounds (off + p.2) p.1) arr) = (u.cells.toList.zipIdx 0).foldl (fun cs p => cs.setIfInBounds (off + p.2) p.1) arr := by
    rw [← Array.foldl_toList]; simp
  have hl : u.cells.toList.length = n := by rw [Array.length_toList, c1, hn]
  obtain ⟨h1, h2⟩ := foldl_splice u.cells.toList 0 off arr (by rw [hl, h.1]; omega)
  rw [hu]
  refine ⟨by rw [h1, h.1, splice_length (by omega)], fun j x hx => ?_⟩
  rw [splice_get (by omega)] at hx
  rw [h2 j, hl]
  simp only [Nat.add_zero]
  rw [hn] at hx
  split at hx
  · rename_i hc
    rw [if_pos hc]
    have := c2 _ x hx
    simpa [Array.getD_eq_getD_getElem?, List.getD_eq_getElem?_getD] using this
  · rename_i hc
    rw [if_neg hc]
    exact h.2 j x hx

/-- A literal's parts are laid in. -/
theorem fill_rep (place : Nat → Option (Nat × Nat)) {F : Frz} : ∀ (l : List (Nat × Value)) (ps : List (Nat × Nat × SV)) (cs : List SV) (arr : Array Value) (r : List SV), l.length = ps.length →
    (∀ (j : Nat) (p : Nat × Value) (p' : Nat × Nat × SV), l[j]? = some p → ps[j]? = some p' → place p.1 = some (p'.1, p'.2.1) ∧ RepS F p'.2.2 p.2 ∧ p'.2.2.fit) → RepL F cs arr → fillS cs ps = some r →
    ∃ arr', Instr.fill place arr l = some arr' ∧ RepL F r arr'
  | [], [], cs, arr, r, _, _, h, hr => by
    simp only [fillS, Option.some.injEq] at hr; subst hr
    exact ⟨arr, rfl, h⟩
  | [], _ :: _, _, _, _, hl, _, _, _ => by simp at hl
  | _ :: _, [], _, _, _, hl, _, _, _ => by simp at hl
  | (i, v) :: l, (off, n, x) :: ps, cs, arr, r, hl, hp, h, hr => by
    obtain ⟨p1, p2, p3⟩ := hp 0 _ _ rfl rfl
    simp only at p1 p2 p3
    simp only [fillS] at hr
    split at hr <;> try (simp at hr; done)
    rename_i hc
    obtain ⟨c1, _⟩ := cells_rep p2 p3
    have h' := h.splice p2 p3 hc.1 hc.2
    obtain ⟨arr', k1, k2⟩ := fill_rep place l ps _ _ r (by simpa using hl) (fun j p p' hj hj' => hp (j + 1) p p' (by simpa using hj) (by simpa using hj')) h' hr
    refine ⟨arr', ?_, k2⟩
    simp only [Instr.fill, p1]
    rw [if_neg]
    · exact k1
    · have h1 := h.1
      rw [hc.1] at c1
      simp only [c1, ne_eq, not_true_eq_false, decide_false, Bool.false_or, decide_eq_true_eq]
      omega

theorem RepL.agg {F : Frz} {cs : List SV} {arr : Array Value} (h : RepL F cs arr) : RepS F (.agg cs) (.agg arr) := .agg cs arr h.1 (fun j x hx => (h.2 j x hx).1) (fun j x hx => (h.2 j x hx).2)

theorem run_mapM {α β : Type} (g : α → Sem β) (h : α → β) : ∀ l : List α, (∀ x ∈ l, (g x).run P w = .ok (h x) w) → (l.mapM g).run P w = .ok (l.map h) w
  | [], _ => rfl
  | x :: l, hx => by
    rw [List.mapM_cons]
    simp only [Sem.run_bind, hx x (by simp), Result.andThen_ok, run_mapM g h l (fun y hy => hx y (by simp [hy])), List.map_cons]
    rfl

theorem run_mapM_arr {α β : Type} (g : α → Sem β) (h : α → β) (l : Array α) (hx : ∀ x ∈ l.toList, (g x).run P w = .ok (h x) w) : (l.mapM g).run P w = .ok (l.map h) w := by
  rw [Array.mapM_eq_mapM_toList]
  have := run_mapM (w := w) g h l.toList hx
  simp [this]
  apply Array.ext'
  simp

theorem sinks_parts {parts : List (Nat × Operand)} {g : Nat × Operand → Option (Nat × Nat × Opd)} {l : List (Nat × Nat × Opd)} (hl : allSome (parts.map g) = some l) (hg : ∀ p r, g p = some r → opd p.2 = some r.2.2) :
    allSome ((parts.map (·.2)).map opd) = some (l.map (·.2.2)) := by
  induction parts generalizing l with
  | nil => simp only [List.map_nil, allSome, Option.some.injEq] at hl; subst hl; rfl
  | cons p ps ih =>
    simp only [List.map_cons] at hl
    cases hp : g p with
    | none => rw [hp] at hl; simp [allSome] at hl
    | some r =>
      rw [hp] at hl
      simp only [allSome] at hl
      split at hl <;> simp only [Option.some.injEq, reduceCtorEq] at hl
      rename_i ys hys
      subst hl
      simp only [List.map_cons, hg p r hp, allSome, ih hys]

theorem keepNil_length : ∀ (as : List AV) (vs : List SV), (keepNil as vs).length = vs.length
  | [], vs => by cases vs <;> rfl
  | a :: as, [] => rfl
  | a :: as, v :: vs => by simp only [keepNil, List.length_cons, keepNil_length as vs]

theorem keepNil_at : ∀ (as : List AV) (vs : List SV) (j : Nat) (x : SV), (keepNil as vs)[j]? = some x → vs[j]? = some x ∨ ((x = .nilS ∨ x = .nil0) ∧ as[j]? = some (.sv x) ∧ j < vs.length)
  | [], vs, j, x, h => .inl (by cases vs <;> exact h)
  | a :: as, [], j, x, h => .inl h
  | a :: as, v :: vs, 0, x, h => by
    simp only [keepNil, List.getElem?_cons_zero, Option.some.injEq] at h
    split at h
    · subst h; exact .inr ⟨.inl rfl, rfl, by simp⟩
    · subst h; exact .inr ⟨.inr rfl, rfl, by simp⟩
    · exact .inl (by simp [h])
  | a :: as, v :: vs, j + 1, x, h => by
    simp only [keepNil, List.getElem?_cons_succ] at h
    rcases keepNil_at as vs j x h with h | ⟨h1, h2, h3⟩
    · exact .inl (by simpa using h)
    · exact .inr ⟨h1, by simpa using h2, by simp; omega⟩

/-- A literal of a struct or an array: what is left out is zero. -/
theorem op_build (hR : R P γ a w s) (hG : GlobOK E γ) {t : TypeId} {parts : Array (Nat × Operand)} {z : List SV} {d : TypeDesc} {g : Nat × Operand → Option (Nat × Nat × Opd)} {place : Nat → Option (Nat × Nat)} {l : List (Nat × Nat × Opd)}
    (ho : o.op = .build t parts) (hz : zeroSV P t = some z) (hl : allSome (parts.toList.map g) = some l) (hg : ∀ p r, g p = some r → opd p.2 = some r.2.2 ∧ place p.1 = some (r.1, r.2.1))
    (hrun : ∀ (zv : Value) (i : TypeInfo), P.info? t = some i → i.zero = some zv → ∀ (vs : Array (Nat × Value)) (cells : Array Value), Instr.fill place zv.cells vs.toList = some cells → (Instr.build t vs).run P w = .ok (.agg cells) w)
    (h : stepV E cf q o.dst s (.build z l) = some (av, s1)) : Done P γ a w o av s1 := by
  simp only [stepV] at h
  split at h <;> try (simp at h; done)
  rename_i vs s2 hvs
  split at h <;> simp only [Option.some.injEq, Prod.mk.injEq, reduceCtorEq] at h
  rename_i cs hcs
  obtain ⟨rfl, rfl⟩ := h
  obtain ⟨i, zv, h1, h2, h3, h4⟩ := zero_rep hz
  obtain ⟨γ', k1, k2, k3, k4, k5, k6⟩ := sinks_ok (parts.toList.map (·.2)) _ γ s vs s2 (sinks_parts hl (fun p r hp => (hg p r hp).1)) hR hG hvs
  have hlen : l.length = parts.toList.length := by have := (allSome_spec hl).1; simpa using this
  have hvl0 : vs.length = parts.toList.length := by rw [k3]; simp
  have hvl := (keepNil_length (l.map fun p => p.2.2.ev E s) vs).trans hvl0
  have k4' : ∀ (j : Nat) (x : SV) (o : Operand), (keepNil (l.map fun p => p.2.2.ev E s) vs)[j]? = some x → (parts.toList.map (·.2))[j]? = some o → RepS γ'.F x (a.eval o) ∧ x.fit := by
    intro j x o hx ho'
    rcases keepNil_at _ _ j x hx with h5 | ⟨hxn, h6, h7⟩
    · exact k4 j x o h5 ho'
    · rw [List.getElem?_map] at h6
      obtain ⟨q, hq, hqe⟩ := Option.map_eq_some_iff.1 h6
      have hl0 := (allSome_spec hl).2 j q hq
      rw [List.getElem?_map] at hl0 ho'
      obtain ⟨p1, hp1, hgp⟩ := Option.map_eq_some_iff.1 hl0
      rw [hp1] at ho'
      simp only [Option.map_some, Option.some.injEq] at ho'
      subst ho'
      have hr1 := ev_rep hR hG (hg p1 q hgp).1
      rw [hqe] at hr1
      exact ⟨hr1.sv_inv.mono k2.F, .inl (by rcases hxn with rfl | rfl <;> rfl)⟩
  generalize keepNil (l.map fun p => p.2.2.ev E s) vs = vs2 at *
  obtain ⟨arr, f1, f2⟩ := fill_rep (F := γ'.F) place (parts.toList.map fun p => (p.1, a.eval p.2)) _ z zv.cells cs (by simp [hlen, hvl]) (fun j p p' hp hp' => by
    rw [List.getElem?_map] at hp hp'
    obtain ⟨p0, hp0, rfl⟩ := Option.map_eq_some_iff.1 hp
    obtain ⟨⟨x0, v0⟩, hx0, rfl⟩ := Option.map_eq_some_iff.1 hp'
    rw [List.getElem?_zip_eq_some] at hx0
    have hl0 := (allSome_spec hl).2 j x0 hx0.1
    rw [List.getElem?_map] at hl0
    obtain ⟨p1, hp1, hgp⟩ := Option.map_eq_some_iff.1 hl0
    have : p1 = p0 := by rw [hp0] at hp1; exact (Option.some.inj hp1).symm
    subst this
    obtain ⟨q1, q2⟩ := k4' j v0 p1.2 hx0.2 (by rw [List.getElem?_map, hp0]; rfl)
    exact ⟨(hg p1 x0 hgp).2, q1, q2⟩) ⟨h3, h4 γ'.F⟩ hcs
  refine ⟨.agg arr, w, γ', .inl ?_, k2, k1, .sv _ _ _ f2.agg⟩
  simp only [execOp, ho]
  have := hrun zv i h1 h2 (parts.map fun p => (p.1, a.eval p.2)) arr (by simpa using f1)
  simp only [Sem.run_bind]
  rw [this]
  rfl

theorem build_struct {t : TypeId} {fs : Array Field} (ht : P.underlying t = some (.struct fs)) (hall : fs.toList.all (fun f => (P.info? f.type).isSome) = true) (zv : Value) (i : TypeInfo) (h1 : P.info? t = some i) (h2 : i.zero = some zv)
    (vs : Array (Nat × Value)) (cells : Array Value) (hf : Instr.fill (fun j : Nat => (fs[j]?).map fun f : Field => (f.offset, P.cellsOf f.type)) zv.cells vs.toList = some cells) : (Instr.build t vs).run P w = .ok (.agg cells) w := by
  have hm := run_mapM_arr (P := P) (w := w) (fun f : Field => do pure (f.offset, ← sizeOf f.type)) (fun f => (f.offset, P.cellsOf f.type)) fs (fun f hf => by
    rw [List.all_eq_true] at hall
    have := hall f hf
    cases hi : P.info? f.type with
    | none => rw [hi] at this; simp at this
    | some i => simp [sizeOf, typeInfo, hi, Program.cellsOf])
  have hp : (fun j : Nat => (fs.map fun f : Field => (f.offset, P.cellsOf f.type))[j]?) = (fun j : Nat => (fs[j]?).map fun f : Field => (f.offset, P.cellsOf f.type)) := by
    funext j; simp
  simp only [Instr.build, Sem.run_bind, zeroValue, typeInfo, run_program, Result.andThen_ok, h1, h2, run_underlying ht]
  simp only [h2, Sem.run_pure, Result.andThen_ok, hm, hp, hf]

theorem build_array {t e : TypeId} {n : Nat} {ie : TypeInfo} (ht : P.underlying t = some (.array n e)) (he : P.info? e = some ie) (zv : Value) (i : TypeInfo) (h1 : P.info? t = some i) (h2 : i.zero = some zv)
    (vs : Array (Nat × Value)) (cells : Array Value) (hf : Instr.fill (fun j => some (j * ie.size, ie.size)) zv.cells vs.toList = some cells) : (Instr.build t vs).run P w = .ok (.agg cells) w := by
  simp only [Instr.build, Sem.run_bind, zeroValue, typeInfo, run_program, Result.andThen_ok, h1, h2, run_underlying ht]
  simp [sizeOf, typeInfo, he, hf, h2]

end Go.Ev

set_option linter.unusedSimpArgs false
set_option linter.unusedVariables false
namespace Go.Ev
variable {P : Program} {E : Env} {γ : Gh} {a : Act} {w : World} {s : St} {o : Oper} {cf : CallF} {q : Bool} {s1 : St} {av : AV}

theorem fold_cells (u : Value) (off : Nat) (arr : Array Value) : (u.cells.zipIdx.foldl (fun cs p => cs.setIfInBounds (off + p.2) p.1) arr) = (u.cells.toList.zipIdx 0).foldl (fun cs p => cs.setIfInBounds (off + p.2) p.1) arr := by
  rw [← Array.foldl_toList]; simp

/-- Parts one behind the other. -/
theorem fill_seq {k : Nat} : ∀ (us : List Value) (i0 : Nat) (arr : Array Value), (∀ u ∈ us, u.cells.size = k) → (i0 + us.length) * k ≤ arr.size →
    ∃ arr', Instr.fill (fun i => some (i * k, k)) arr ((List.range' i0 us.length).zip us) = some arr' ∧ arr'.size = arr.size ∧
      (∀ j, j < i0 * k → arr'.getD j undef = arr.getD j undef) ∧ ∀ (i : Nat) (u : Value), us[i]? = some u → ∀ j, j < k → arr'.getD ((i0 + i) * k + j) undef = u.cells.getD j undef
  | [], i0, arr, _, _ => ⟨arr, rfl, rfl, fun _ _ => rfl, by simp⟩
  | u :: us, i0, arr, hk, hl => by
    have hku := hk u (by simp)
    have hl1 : (i0 + 1 + us.length) * k ≤ arr.size := by simpa [Nat.add_comm, Nat.add_left_comm, Nat.add_assoc] using hl
    have hl0 : i0 * k + k ≤ arr.size := by
      have : (i0 + 1) * k ≤ (i0 + 1 + us.length) * k := Nat.mul_le_mul_right _ (by omega)
      rw [Nat.add_mul, Nat.one_mul] at this; omega
    obtain ⟨f1, f2⟩ := foldl_splice u.cells.toList 0 (i0 * k) arr (by simp [hku]; omega)
    rw [← fold_cells] at f1 f2
    simp only [Nat.add_zero, Array.length_toList, hku] at f2
    obtain ⟨arr', g1, g2, g3, g4⟩ := fill_seq us (i0 + 1) (u.cells.zipIdx.foldl (fun cs p => cs.setIfInBounds (i0 * k + p.2) p.1) arr) (fun v hv => hk v (by simp [hv])) (by rw [f1]; exact hl1)
    refine ⟨arr', ?_, by rw [g2, f1], fun j hj => ?_, fun i v hv j hj => ?_⟩
    · simp only [List.length_cons, List.range'_succ, List.zip_cons_cons, Instr.fill]
      rw [if_neg]
      · exact g1
      · simp only [hku, ne_eq, not_true_eq_false, decide_false, Bool.false_or, decide_eq_true_eq]; omega
    · rw [g3 j (by rw [Nat.add_mul]; omega), f2 j, if_neg (by omega)]
    · cases i with
      | zero =>
        simp only [List.getElem?_cons_zero, Option.some.injEq] at hv; subst hv
        rw [Nat.add_zero, g3 _ (by rw [Nat.add_mul]; omega), f2, if_pos (by omega)]
        simp [Array.getD_eq_getD_getElem?, List.getD_eq_getElem?_getD]
      | succ i =>
        have := g4 i v (by simpa using hv) j hj
        rw [show i0 + (i + 1) = i0 + 1 + i from by omega]; exact this

theorem uni_spec {k : Nat} {xs : List SV} (h : uni k xs = true) : ∀ x ∈ xs, x.cells.length = k := by
  intro x hx
  simp only [uni, List.all_eq_true, beq_iff_eq] at h
  exact h x hx

/-- A new block that is owned. -/
theorem R.own_new (hR : R P γ a w s) {e : Nat} {xs : List SV} {vs : List Value} {u : Value} {w' : World} (hos : w'.os = w.os) (hta : w'.tape = w.tape) (hou : w'.output = w.output) (hsz : w.heap.size ≤ w'.heap.size)
    (hbl : ∀ b, b < w.heap.size → w'.heap[b]? = w.heap[b]?) (hO : w'.ownsRow 0 e (P.cellsOf e) u xs.length vs) (hk : 0 < P.cellsOf e) (hl : ∀ x ∈ xs, x.cells.length = P.cellsOf e)
    (hr : ∀ (j : Nat) (x : SV), (flat xs)[j]? = some x → x.one = true ∧ ∃ v, vs[j]? = some v ∧ RepS γ.F x v) {g : Nat} (hg : u.ownBlock = some g) (hgs : w.heap.size ≤ g) :
    ∃ γ', Fresh γ w γ' w' ∧ R P γ' a w' s ∧ RepO P γ' w' .ret e xs u := by
  have hcells : ∀ (j : Nat) (v : Value), vs[j]? = some v → w'.cell? ⟨g, j, none⟩ = some v := fun j v hv => by
    have := hO.cells hg j v hv
    rw [add_none, Nat.zero_add] at this
    exact this
  have hglt : g < w'.heap.size := by have := (hO.lt g hg).2; exact this
  let γ' : Gh := { γ with F := fun b o v => γ.F b o v ∨ (b = g ∧ vs[o]? = some v), ow := fun b => if b = g then some .ret else γ.ow b }
  have hf : Fresh γ w γ' w' := by
    refine ⟨hos, hta, hou, hsz, hbl, fun _ _ _ h => .inl h, fun b o v hb h => ?_, fun b o v h => ?_, rfl, rfl, fun b hb => ?_, fun b ℓ hb ho => ?_⟩
    · rcases h with h | ⟨rfl, _⟩
      · exact h
      · omega
    · rcases h with h | ⟨rfl, h⟩
      · have hc := hR.bx.Fw _ _ _ h
        exact (World.cell?_of_block (w := w) (hbl b (lt_of_cell hc))).trans hc
      · exact hcells o v h
    · show (if b = g then _ else _) = _
      rw [if_neg (by omega)]
    · simp only [γ'] at ho
      split at ho
      · rename_i e'; subst e'
        simp only [Option.some.injEq] at ho
        exact ⟨hglt, ho.symm⟩
      · have := (hR.bx.ow b ℓ ho).1; omega
  have hnF : ∀ o v, ¬ γ.F g o v := fun o v h => by have := lt_of_cell (hR.bx.Fw _ _ _ h); omega
  refine ⟨γ', hf, hf.R hR, vs, g, hO, hk, hl, fun j x hx => ?_, hg, by simp [γ'], fun j v hv => .inr ⟨rfl, hv⟩, fun j v hv => ?_⟩
  · obtain ⟨h1, v, h2, h3⟩ := hr j x hx
    exact ⟨h1, v, h2, h3.mono (fun _ _ _ h => .inl h)⟩
  · rcases hv with h | ⟨_, h⟩
    · exact absurd h (hnF _ _)
    · exact (List.getElem?_eq_some_iff.1 h).1

/-- Values one behind the other in an array. -/
theorem rep_flat {F : Frz} {k : Nat} (hk : 0 < k) {xs : List SV} (hl : ∀ x ∈ xs, x.cells.length = k) {us : List Value} (hul : us.length = xs.length) (hr : ∀ (j : Nat) (x : SV) (u : Value), xs[j]? = some x → us[j]? = some u → RepS F x u ∧ x.fit)
    {vs : List Value} (hvl : vs.length = xs.length * k) (hv : ∀ (i : Nat) (u : Value), us[i]? = some u → ∀ j, j < k → vs[i * k + j]? = some (u.cells.getD j undef)) :
    ∀ (j : Nat) (x : SV), (flat xs)[j]? = some x → x.one = true ∧ ∃ v, vs[j]? = some v ∧ RepS F x v := by
  intro j x hx
  have hj : j < xs.length * k := by rw [← flat_length hl]; exact (List.getElem?_eq_some_iff.1 hx).1
  have hdiv : j / k < xs.length := by rw [Nat.div_lt_iff_lt_mul hk]; exact hj
  have hmod : j % k < k := Nat.mod_lt _ hk
  have hjj : j / k * k + j % k = j := by rw [Nat.mul_comm]; exact Nat.div_add_mod j k
  have h1 : xs[j / k]? = some xs[j / k] := by simp [hdiv]
  have h2 : us[j / k]? = some (us[j / k]'(by omega)) := by simp [show j / k < us.length by omega]
  obtain ⟨r1, r2⟩ := hr _ _ _ h1 h2
  obtain ⟨c1, c2⟩ := cells_rep r1 r2
  have hf := flat_get hl h1 hmod
  rw [hjj] at hf
  rw [hf] at hx
  obtain ⟨d1, d2⟩ := c2 _ x hx
  refine ⟨d1, _, ?_, d2⟩
  have := hv _ _ h2 _ hmod
  rw [hjj] at this
  exact this

theorem op_mkSl (hR : R P γ a w s) (hG : GlobOK E γ) {t e : TypeId} {n k b : Nat} {parts : Array (Nat × Operand)} {l : List Opd} (ho : o.op = .buildSlice t n parts) (ht : P.underlying t = some (.slice e)) (hs : sizeB P e = some (k, b)) (hl : allSome (parts.toList.map fun p => opd p.2) = some l)
    (hr : parts.toList.map (·.1) = List.range n) (hn : n * k ≤ 16777216) (hk : 0 < k) (hz : zeroOK P e = true) (h : stepV E cf q o.dst s (.mkSl e k l) = some (av, s1)) : Done P γ a w o av s1 := by
  simp only [stepV] at h
  split at h <;> try (simp at h; done)
  rename_i vs s2 hvs
  split at h <;> simp only [Option.some.injEq, Prod.mk.injEq, reduceCtorEq] at h
  rename_i hu
  obtain ⟨rfl, rfl⟩ := h
  have hlen := uni_spec hu
  obtain ⟨γ1, k1, k2, k3, k4, k5, k6⟩ := sinks_ok (parts.toList.map (·.2)) l γ s vs s2 (by rw [List.map_map]; exact hl) hR hG hvs
  have hpl : parts.toList.length = n := by have := congrArg List.length hr; simpa using this
  have hvl : vs.length = n := by rw [k3]; simpa using hpl
  simp only [sizeB, Option.map_eq_some_iff, Prod.mk.injEq] at hs
  obtain ⟨ie, hie, hsz, hby⟩ := hs
  unfold zeroOK at hz
  rw [hie] at hz
  simp only at hz
  split at hz <;> try (simp at hz; done)
  rename_i zv hzv
  have hzs : zv.cells.size = k := by rw [← hsz]; simpa using hz
  have hke : P.cellsOf e = k := by simp [Program.cellsOf, hie, hsz]
  let us : List Value := parts.toList.map fun p => a.eval p.2
  have hul : us.length = n := by simp [us]; exact hpl
  have hreps : ∀ (j : Nat) (x : SV) (u : Value), vs[j]? = some x → us[j]? = some u → RepS γ1.F x u ∧ x.fit := by
    intro j x u hx hu'
    simp only [us, List.getElem?_map] at hu'
    obtain ⟨p, hp, rfl⟩ := Option.map_eq_some_iff.1 hu'
    exact k4 j x p.2 hx (by rw [List.getElem?_map, hp]; rfl)
  have husz : ∀ u ∈ us, u.cells.size = k := by
    intro u hu'
    obtain ⟨j, hj⟩ := List.getElem?_of_mem hu'
    have hjl : j < vs.length := by rw [hvl, ← hul]; exact (List.getElem?_eq_some_iff.1 hj).1
    obtain ⟨r1, r2⟩ := hreps j vs[j] u (by simp [hjl]) hj
    rw [(cells_rep r1 r2).1]
    exact hlen _ (by simp)
  obtain ⟨arr, f1, f2, f3, f4⟩ := fill_seq (k := k) us 0 ((Array.range (n * k)).map (zv.cells[· % zv.cells.size]!)) husz (by simp [hul])
  have hparts : (parts.map fun p => (p.1, a.eval p.2)).toList = (List.range' 0 us.length).zip us := by
    apply List.ext_getElem?
    intro j
    simp only [Array.toList_map, List.getElem?_map]
    by_cases hj : j < n
    · have hj' : j < parts.toList.length := by rw [hpl]; exact hj
      have h1 : parts.toList[j]? = some parts.toList[j] := by simp [hj']
      have h2 : (parts.toList.map (·.1))[j]? = some j := by rw [hr]; simp [hj]
      rw [List.getElem?_map, h1] at h2
      simp only [Option.map_some, Option.some.injEq] at h2
      rw [h1]
      simp only [Option.map_some]
      symm
      rw [List.getElem?_zip_eq_some]
      refine ⟨?_, ?_⟩
      · rw [← List.range_eq_range', List.getElem?_range (by rw [hul]; exact hj), h2]
      · simp only [us, List.getElem?_map, h1, Option.map_some]
    · rw [List.getElem?_eq_none (by rw [hpl]; omega), List.getElem?_eq_none (by simp [hul]; omega)]
      rfl
  have hsize : arr.size = n * k := by rw [f2]; simp
  have hrun : (execOp a.eval o).run P w = .ok (.value (.slice (some ⟨w.heap.size, 0, none⟩) n n)) (w.alloc (.cells arr e)) := by
    simp only [execOp, ho]
    have hz2 : ∀ (K : Array Value → Sem Value), ((if n * k = 0 then pure #[] else do pure (← zeroValue e).cells : Sem (Array Value)) >>= K).run P w = (K (if n * k = 0 then #[] else zv.cells)).run P w := by
      intro K
      by_cases h0 : n * k = 0
      · simp only [h0, if_true, pure_bind]
      · simp [h0, zeroValue, typeInfo, hie, hzv]
    have hfill : Instr.fill (fun i => some (i * k, k)) ((Array.range (n * k)).map ((if n * k = 0 then #[] else zv.cells)[· % (if n * k = 0 then #[] else zv.cells).size]!)) (parts.map fun p => (p.1, a.eval p.2)).toList = some arr := by
      rw [hparts]
      by_cases h0 : n * k = 0
      · have hn0 : n = 0 := by rcases Nat.mul_eq_zero.1 h0 with h | h <;> omega
        have : us = [] := List.eq_nil_of_length_eq_zero (by rw [hul, hn0])
        rw [this] at f1 ⊢
        simp only [List.length_nil, List.range'_zero, List.zip_nil_right, Instr.fill, Option.some.injEq] at f1 ⊢
        rw [← f1]
        apply Array.ext'
        simp [h0]
      · simp only [h0, if_false]; exact f1
    have hnk : ¬ n * k > 2 ^ 24 := by omega
    have hb : (Instr.buildSlice t n (parts.map fun p => (p.1, a.eval p.2))).run P w = .ok (.slice (some ⟨w.heap.size, 0, none⟩) n n) (w.alloc (.cells arr e)) := by
      have hd : Instr.buildSlice t n (parts.map fun p => (p.1, a.eval p.2)) = (do
          let .slice elem ← underlying t | stuck "buildSlice: slice type expected"
          let size ← sizeOf elem
          if n * size > 2 ^ 24 then unsupported (.resourceLimit "buildSlice: more than 2^24 cells")
          let zero ← if n * size = 0 then pure #[] else do pure (← zeroValue elem).cells
          let some cells := Instr.fill (fun i => some (i * size, size)) ((Array.range (n * size)).map (zero[· % zero.size]!)) (parts.map fun p => (p.1, a.eval p.2)).toList
            | stuck "buildSlice: a part of the wrong size"
          pure (.slice (some (← newRow elem cells)) n n)) := rfl
      rw [hd]
      simp only [Sem.run_bind, run_underlying ht, Result.andThen_ok, sizeOf, typeInfo, run_program, hie, Sem.run_pure, hsz, if_neg hnk]
      by_cases h0 : n * k = 0
      · simp only [h0, if_true] at hfill ⊢
        simp only [pure_bind, hfill]
        simp [newRow]
      · simp only [h0, if_false] at hfill ⊢
        simp only [zeroValue, typeInfo, Sem.run_bind, run_program, Result.andThen_ok, hie, Sem.run_pure, hzv, hfill]
        simp [newRow]
    simp only [Sem.run_bind, hb, Result.andThen_ok]
    rfl
  have hO : (w.alloc (.cells arr e)).ownsRow 0 e (P.cellsOf e) (.slice (some ⟨w.heap.size, 0, none⟩) n n) vs.length arr.toList := by
    rw [hke, hvl]
    refine ⟨by simp [hsize], .inr ⟨w.heap.size, n, arr, rfl, Nat.zero_le _, heap_alloc_new w _, Nat.le_refl _, ?_, hsize, ?_⟩⟩
    · simp only [maxLen]
      have := Nat.le_mul_of_pos_right n hk
      omega
    · rw [List.take_of_length_le (by simp [hsize])]
  have hflat := rep_flat (F := γ1.F) hk hlen (us := us) (by rw [hul, hvl]) hreps (vs := arr.toList) (by simp [hsize, hvl]) (fun i u hu' j hj => by
    have := f4 i u hu' j hj
    rw [Nat.zero_add] at this
    have hi : i < n := by rw [← hul]; exact (List.getElem?_eq_some_iff.1 hu').1
    have hlt : i * k + j < arr.size := by
      rw [hsize]
      have h3 : (i + 1) * k ≤ n * k := Nat.mul_le_mul_right _ hi
      rw [Nat.add_mul] at h3; omega
    simp only [Array.getD_eq_getD_getElem?, Array.getElem?_eq_getElem hlt, Option.getD_some] at this
    simp [hlt, this, Array.getD_eq_getD_getElem?])
  obtain ⟨γ2, g1, g2, g3⟩ := R.own_new (P := P) k1 (w' := w.alloc (.cells arr e)) rfl rfl rfl (by simp) (fun b hb => heap_alloc_old w _ b hb) hO (by rw [hke]; exact hk) (by rw [hke]; exact hlen) hflat rfl (Nat.le_refl _)
  have hfin : RepA P γ2 (w.alloc (.cells arr e)) .ret (mkSlA q e vs) (.slice (some ⟨w.heap.size, 0, none⟩) n n) := by
    cases q with
    | true => exact .own _ _ _ _ g3
    | false =>
      cases vs with
      | nil =>
        obtain rfl : n = 0 := by simpa using hvl.symm
        exact .sv _ _ _ (.nil0 _)
      | cons x l => exact .own _ _ _ _ g3
  exact ⟨_, _, γ2, .inl hrun, k2.trans g1.ext, g2, hfin⟩

end Go.Ev

set_option linter.unusedSimpArgs false
set_option linter.unusedVariables false
namespace Go.Ev
variable {P : Program} {E : Env} {γ : Gh} {a : Act} {w : World} {s : St} {o : Oper} {cf : CallF} {q : Bool} {s1 : St} {av : AV}

theorem R.mvRet (hR : R P γ a w s) (ℓ : Loc) : R P (γ.mv .ret ℓ) a w s where
  bx := hR.bx.mv (by simp)
  sz := hR.sz
  tm := fun t ht => (hR.tm t ht).mv_other (by simp)
  lz := fun d ℓ' hd => by
    have := hR.lz d ℓ' hd
    cases ℓ' <;> exact this
  dl := hR.dl
  df := fun i d c hd hc => by
    exact hR.df i d c hd hc

theorem run_storeCells_free (g o : Nat) (t : TypeId) (m : Nat × Nat) : ∀ (vs : List Value) (i : Nat) (cur : Array Value) (w : World), w.heap[g]? = some (.cells cur t m) → (∀ j, o + i ≤ j → j < o + i + vs.length → ¬ (m.1 ≤ j ∧ j < m.2)) → o + i + vs.length ≤ cur.size → (∀ v ∈ vs, v.oneCell' = true) →
    (storeCells ⟨g, o, none⟩ vs i).run P w = .ok () (w.setRow g (cur.toList.take (o + i) ++ vs ++ cur.toList.drop (o + i + vs.length)).toArray)
  | [], i, cur, w, hg, _, _, _ => by
    simp only [storeCells, List.append_nil, List.length_nil, Nat.add_zero, List.take_append_drop, Array.toArray_toList]
    rw [setRow_self w g cur t m hg]
    rfl
  | v :: rest, i, cur, w, hg, hfz, hl, h1 => by
    have hi : o + i < cur.size := by simp at hl; omega
    have hadd : (⟨g, o, none⟩ : Addr).add i = ⟨g, o + i, none⟩ := by unfold Addr.add; split <;> simp_all
    have hcell : w.cell? ⟨g, o + i, none⟩ = some cur[o + i] := by simp [World.cell?, hg, hi]
    have hfro : w.frozen? ⟨g, o + i, none⟩ = false := by
      have := hfz (o + i) (Nat.le_refl _) (by simp)
      obtain ⟨lo, hi'⟩ := m
      simp only [World.frozen?, hg, Bool.and_eq_false_iff, decide_eq_false_iff_not]
      simp only at this
      omega
    have hst : (store ((⟨g, o, none⟩ : Addr).add i) v).run P w = .ok () (w.setRow g (cur.setIfInBounds (o + i) v)) := by
      rw [hadd, run_store P w _ v _ (h1 v (by simp)), hcell]
      simp [hfro, setCell_eq_setRow w g (o + i) cur t m v hg]
    have ih := run_storeCells_free g o t m rest (i + 1) (cur.setIfInBounds (o + i) v) (w.setRow g (cur.setIfInBounds (o + i) v)) (setRow_heap w g cur _ t _ hg) (fun j h2 h3 => hfz j (by omega) (by simp at h3 ⊢; omega)) (by simp at hl ⊢; omega) (fun x hx => h1 x (by simp [hx]))
    simp only [storeCells, Sem.run_bind, hst, Result.andThen_ok, ih, setRow_setRow]
    congr 3
    have e := list_seg_step cur.toList (o + i) v rest (by simp at hl ⊢; omega)
    simpa [Array.toList_setIfInBounds, Nat.add_assoc] using e

theorem R.setBox (hR : R P γ a w s) {i blk : Nat} {cs cs' : List Cell} {arr arr' : Array Value} {t : TypeId} {m : Nat × Nat} (hi : s.bx[i]? = some (.live cs)) (hk : γ.β[i]? = some blk) (hh : w.heap[blk]? = some (.cells arr t m))
    (hsz : arr'.size = arr.size) (hs : cs'.length ≤ arr'.size) (hm : Free m cs'.length) (hr : ∀ (j : Nat) (c : Cell), cs'[j]? = some c → RepC P γ w i j c (arr'.getD j undef)) :
    R P γ a (w.setRow blk arr') { s with bx := s.bx.set i (.live cs'), lz := none } ∧ Ext γ w γ (w.setRow blk arr') := by
  have hilt : i < s.bx.length := (List.getElem?_eq_some_iff.1 hi).1
  have hblkβ : blk ∈ γ.β := List.mem_of_getElem? hk
  have hog : ∀ g ℓ, γ.ow g = some ℓ → g ≠ blk := fun g ℓ h e => (hR.bx.ow g ℓ h).2 (e ▸ hblkβ)
  obtain ⟨_, _, _, _, _, _, hnF⟩ := hR.bx.box i _ blk hi hk
  have hk1 : ∀ g ℓ, γ.ow g = some ℓ → (w.setRow blk arr').heap[g]? = w.heap[g]? ∧ (∀ j v, γ.F g j v → γ.F g j v) ∧ γ.ow g = some ℓ := fun g ℓ h => ⟨setRow_other w blk g arr' (hog g ℓ h), fun _ _ h => h, h⟩
  refine ⟨⟨⟨by simp [hR.bx.len], ?_, nodup_set hR.bx.nodup hi (by simp), ?_, fun b ℓ hb => ?_, fun b e c hsh => ?_⟩, hR.sz, fun t' ht => (hR.tm t' ht).keep (fun _ _ _ h => h) (fun _ _ h => h) (fun g _ hg => hk1 g _ hg), by simp, hR.dl, ?_⟩, ?_⟩
  · intro i' b' blk' hi' hk'
    rw [List.getElem?_set] at hi'
    split at hi'
    · rename_i e
      subst e
      simp only [hilt, if_true, Option.some.injEq] at hi'
      subst hi'
      have : blk' = blk := by have h := hk'.symm.trans hk; simpa using h
      subst this
      exact ⟨arr', t, m, setRow_heap w blk' arr arr' t m hh, ⟨hs, hm⟩, fun j c hc => (hr j c hc).keep (fun _ _ _ h => h) (fun g _ hg => hk1 g _ hg) (fun _ _ h => h), hnF⟩
    · rename_i e
      by_cases hne : blk' = blk
      · subst hne
        have := other_dead hR.bx.nodup hi (by simp) hk hi' hk' (fun h => e h.symm)
        subst this
        exact dead_rep (by simpa using heap_lt hh)
      · exact (hR.bx.box i' b' blk' hi' hk').keep (fun _ _ _ h => h) (setRow_other w blk blk' arr' hne) (fun _ _ h => h) (fun g j hg => hk1 g _ hg) (fun _ _ h => h)
  · intro b' o' v hF
    rw [cell_setRow_other w blk arr' _ (fun e : b' = blk => hnF o' v (e ▸ hF))]
    exact hR.bx.Fw _ _ _ hF
  · obtain ⟨k1, k2⟩ := hR.bx.ow b ℓ hb
    exact ⟨by simpa using k1, k2⟩
  · obtain ⟨q1, cur, q2, q3, q4⟩ := hR.bx.sh b e c hsh
    refine ⟨q1, ?_⟩
    by_cases eb : b = blk
    · subst eb
      rw [hh] at q2
      simp only [Option.some.injEq, Obj.cells.injEq] at q2
      obtain ⟨rfl, rfl, rfl⟩ := q2
      exact ⟨arr', setRow_heap w b arr arr' _ _ hh, by rw [hsz]; exact q3, q4⟩
    · exact ⟨cur, (setRow_other w blk b arr' eb).trans q2, q3, q4⟩
  · intro j d c hd hc
    exact hR.df j d c hd hc
  · exact ⟨rfl, rfl, rfl, by simp, fun _ _ _ h => h, ⟨[], by simp, by simp⟩, fun b hb => setRow_other w blk b arr' (fun e => hb.2.1 (e ▸ hblkβ)), fun _ _ _ _ h => h, fun b hb => hb.2.2, fun _ _ h => h⟩

/-- A pointer in a cell, as one that can be shared: the memory is the same. -/
theorem tidy1_ok (hR : R P γ a w s) (i off j o : Nat) : ∃ γ', R P γ' a w (tidy1 s i off j o) ∧ Ext γ w γ' w ∧ (tidy1 s i off j o).tm = s.tm ∧ (tidy1 s i off j o).df = s.df ∧ γ'.β = γ.β := by
  have triv : ∃ γ', R P γ' a w s ∧ Ext γ w γ' w ∧ s.tm = s.tm ∧ s.df = s.df ∧ γ'.β = γ.β := ⟨γ, hR, Ext.refl _ _, rfl, rfl, rfl⟩
  unfold tidy1
  split
  rotate_left
  · exact triv
  rename_i w0 s' hsk
  split
  rotate_left
  · exact triv
  rename_i cs hcs
  split
  rotate_left
  · exact triv
  rename_i j' o' hc
  split
  rotate_left
  · exact triv
  rename_i he
  obtain ⟨rfl, rfl⟩ := he
  have hj : j' < s.bx.length := by
    simp only [sink] at hsk
    split at hsk <;> simp only [Option.some.injEq, Prod.mk.injEq, reduceCtorEq] at hsk
    rename_i b hb
    exact (List.getElem?_eq_some_iff.1 hb).1
  have hone : w0.one = true := by
    simp only [sink] at hsk
    split at hsk <;> simp only [Option.some.injEq, Prod.mk.injEq, reduceCtorEq] at hsk
    rw [← hsk.1]; rfl
  obtain ⟨b, hb⟩ : ∃ b, γ.β[j']? = some b := ⟨γ.β[j']'(by rw [hR.bx.len]; exact hj), by simp [hR.bx.len, hj]⟩
  obtain ⟨γ1, g1, g2, g3, g4, g5, g6, g7⟩ := sink_ok hR (.ptr .ret j' o' b hb) hsk
  have hi : i < s'.bx.length := (List.getElem?_eq_some_iff.1 hcs).1
  obtain ⟨blk, hk⟩ : ∃ blk, γ1.β[i]? = some blk := ⟨γ1.β[i]'(by rw [g1.bx.len]; exact hi), by simp [g1.bx.len, hi]⟩
  obtain ⟨arr, t, m, k1, ⟨k2, kf⟩, k3, k4⟩ := g1.bx.box i _ blk hcs hk
  obtain ⟨b', e1, e2⟩ := k3 off _ hc
  rw [g7, hb] at e1
  simp only [Option.some.injEq] at e1
  subst e1
  have hset := g1.setBox (i := i) (blk := blk) (cs := cs) (cs' := cs.set off (.sv w0)) (arr := arr) (arr' := arr) hcs hk k1 rfl (by simpa using k2) (by simpa using kf) (fun q c hq => by
    rw [List.getElem?_set] at hq
    split at hq
    · rename_i e
      subst e
      split at hq <;> simp only [Option.some.injEq, reduceCtorEq] at hq
      subst hq
      exact ⟨hone, by rw [e2]; exact g3⟩
    · exact k3 q c hq)
  rw [setRow_self w blk arr t m k1] at hset
  exact ⟨γ1, hset.1, g2.trans hset.2, g5, g6, g7⟩

/-- A slice in a cell, as one that can be shared: the memory is the same. -/
theorem tidyR1_ok (hR : R P γ a w s) (i off j n k : Nat) : ∃ γ', R P γ' a w (tidyR1 s i off j n k) ∧ Ext γ w γ' w ∧ (tidyR1 s i off j n k).tm = s.tm ∧ (tidyR1 s i off j n k).df = s.df ∧ γ'.β = γ.β := by
  have triv : ∃ γ', R P γ' a w s ∧ Ext γ w γ' w ∧ s.tm = s.tm ∧ s.df = s.df ∧ γ'.β = γ.β := ⟨γ, hR, Ext.refl _ _, rfl, rfl, rfl⟩
  unfold tidyR1
  split
  rotate_left
  · exact triv
  rename_i w0 s' hsk
  split
  rotate_left
  · exact triv
  rename_i cs hcs
  split
  rotate_left
  · exact triv
  rename_i j' n' k' hc
  split
  rotate_left
  · exact triv
  rename_i he
  obtain ⟨rfl, rfl, rfl⟩ := he
  have hcs0 : s.bx[i]? = some (.live cs) ∧ w0.one = true := by
    simp only [sink] at hsk
    split at hsk <;> try (simp at hsk; done)
    split at hsk <;> try (simp at hsk; done)
    rename_i b hb
    split at hsk <;> simp only [Option.some.injEq, Prod.mk.injEq, reduceCtorEq] at hsk
    obtain ⟨e1, e2⟩ := hsk
    refine ⟨?_, by rw [← e1]; rfl⟩
    rw [← e2] at hcs
    simp only [List.getElem?_set] at hcs
    split at hcs
    · split at hcs <;> simp at hcs
    · exact hcs
  obtain ⟨hcs0, hone⟩ := hcs0
  have hi0 : i < s.bx.length := (List.getElem?_eq_some_iff.1 hcs0).1
  obtain ⟨blk, hk0⟩ : ∃ blk, γ.β[i]? = some blk := ⟨γ.β[i]'(by rw [hR.bx.len]; exact hi0), by simp [hR.bx.len, hi0]⟩
  obtain ⟨arr, t, m, q1, _, q3, _⟩ := hR.bx.box i _ blk hcs0 hk0
  obtain ⟨b, cap, hb, hcap, q4⟩ := q3 off _ hc
  obtain ⟨γ1, g1, g2, g3, g4, g5, g6, g7⟩ := sink_ok hR (.mrow .ret j' n' k' b cap hb hcap) hsk
  have hk : γ1.β[i]? = some blk := by rw [g7]; exact hk0
  obtain ⟨arr1, t1, m1, k1, ⟨k2, kf⟩, k3, k4⟩ := g1.bx.box i _ blk hcs hk
  have ha : arr1 = arr := by
    rw [q1] at k1
    simp only [Option.some.injEq, Obj.cells.injEq] at k1
    exact k1.1.symm
  subst ha
  have hset := g1.setBox (i := i) (blk := blk) (cs := cs) (cs' := cs.set off (.sv w0)) (arr := arr1) (arr' := arr1) hcs hk k1 rfl (by simpa using k2) (by simpa using kf) (fun q c hq => by
    rw [List.getElem?_set] at hq
    split at hq
    · rename_i e
      subst e
      split at hq <;> simp only [Option.some.injEq, reduceCtorEq] at hq
      subst hq
      exact ⟨hone, by rw [q4]; exact g3⟩
    · exact k3 q c hq)
  rw [setRow_self w blk arr1 t1 m1 k1] at hset
  exact ⟨γ1, hset.1, g2.trans hset.2, g5, g6, g7⟩

theorem tidyCs_ok (i : Nat) : ∀ (cs : List Cell) (off : Nat) (γ : Gh) (s : St), R P γ a w s → ∃ γ', R P γ' a w (tidyCs i off cs s) ∧ Ext γ w γ' w ∧ (tidyCs i off cs s).tm = s.tm ∧ (tidyCs i off cs s).df = s.df ∧ γ'.β = γ.β
  | [], _, γ, s, hR => ⟨γ, hR, Ext.refl _ _, rfl, rfl, rfl⟩
  | .sv _ :: cs, off, γ, s, hR => tidyCs_ok i cs (off + 1) γ s hR
  | .own _ _ :: cs, off, γ, s, hR => tidyCs_ok i cs (off + 1) γ s hR
  | .lrw j n k :: cs, off, γ, s, hR => by
    obtain ⟨γ1, h1, h2, h3, h4, h5⟩ := tidyR1_ok hR i off j n k
    obtain ⟨γ2, g1, g2, g3, g4, g5⟩ := tidyCs_ok i cs (off + 1) γ1 _ h1
    exact ⟨γ2, g1, h2.trans g2, g3.trans h3, g4.trans h4, g5.trans h5⟩
  | .lnk j o :: cs, off, γ, s, hR => by
    obtain ⟨γ1, h1, h2, h3, h4, h5⟩ := tidy1_ok hR i off j o
    obtain ⟨γ2, g1, g2, g3, g4, g5⟩ := tidyCs_ok i cs (off + 1) γ1 _ h1
    exact ⟨γ2, g1, h2.trans g2, g3.trans h3, g4.trans h4, g5.trans h5⟩

theorem tidyBs_ok : ∀ (bs : List Box) (i : Nat) (γ : Gh) (s : St), R P γ a w s → ∃ γ', R P γ' a w (tidyBs i bs s) ∧ Ext γ w γ' w ∧ (tidyBs i bs s).tm = s.tm ∧ (tidyBs i bs s).df = s.df ∧ γ'.β = γ.β
  | [], _, γ, s, hR => ⟨γ, hR, Ext.refl _ _, rfl, rfl, rfl⟩
  | .frz _ :: bs, i, γ, s, hR => tidyBs_ok bs (i + 1) γ s hR
  | .it _ _ :: bs, i, γ, s, hR => tidyBs_ok bs (i + 1) γ s hR
  | .live cs :: bs, i, γ, s, hR => by
    obtain ⟨γ1, h1, h2, h3, h4, h5⟩ := tidyCs_ok i cs 0 γ s hR
    obtain ⟨γ2, g1, g2, g3, g4, g5⟩ := tidyBs_ok bs (i + 1) γ1 _ h1
    exact ⟨γ2, g1, h2.trans g2, g3.trans h3, g4.trans h4, g5.trans h5⟩

theorem tidyIf_ok (b : Bool) (hR : R P γ a w s) : ∃ γ', R P γ' a w (s.tidyIf b) ∧ Ext γ w γ' w ∧ (s.tidyIf b).tm = s.tm ∧ (s.tidyIf b).df = s.df ∧ γ'.β = γ.β := by
  unfold St.tidyIf
  split
  · exact tidyBs_ok s.bx 0 γ s hR
  · exact ⟨γ, hR, Ext.refl _ _, rfl, rfl, rfl⟩

theorem run_storeAt {t : TypeId} {b o : Nat} {arr : Array Value} {ty : TypeId} {m : Nat × Nat} {v : Value} {i : TypeInfo} (hh : w.heap[b]? = some (.cells arr ty m)) (hm : ∀ j, o ≤ j → j < o + i.size → ¬ (m.1 ≤ j ∧ j < m.2)) (hi : P.info? t = some i) (hs : v.cells.size = i.size) (hf : o + i.size ≤ arr.size) (h1 : ∀ x ∈ v.cells.toList, x.oneCell' = true) :
    (Instr.storeAt t (.pointer (some ⟨b, o, none⟩)) v).run P w = .ok () (w.setRow b (arr.toList.take o ++ v.cells.toList ++ arr.toList.drop (o + i.size)).toArray) := by
  have hst := run_storeCells_free (P := P) b o ty m v.cells.toList 0 arr w hh (by simpa [hs] using hm) (by simp [hs]; omega) h1
  simp only [Nat.add_zero, Array.length_toList, hs] at hst
  simp [Instr.storeAt, Instr.sureAddr, storeVar, sizeOf, typeInfo, hi, hs, hst]

theorem own_opd {e : Nat} {xs : List SV} {x : Opd} (h : x.ev E s = .own e xs) : ∃ n, x = .t n ∧ n < s.tm.length ∧ s.rd n = .own e xs := by
  cases x with
  | t n =>
    refine ⟨n, rfl, Decidable.byContradiction fun hn => ?_, h⟩
    simp only [Opd.ev, St.rd, List.getD_eq_getElem?_getD] at h
    rw [List.getElem?_eq_none (by omega)] at h
    simp at h
  | c v => simp [Opd.ev] at h
  | g n => simp [Opd.ev] at h

theorem aggN_none {t : TypeId} (h : aggN P t = some none) : ∃ i, P.info? t = some i ∧ i.size = 1 := by
  unfold aggN at h
  split at h <;> try (simp at h; done)
  · split at h
    · rename_i hs; exact ⟨_, ‹_›, hs⟩
    · simp at h

theorem aggN_some {t : TypeId} {k : Nat} (h : aggN P t = some (some k)) : ∃ i, P.info? t = some i ∧ i.size = k := by
  unfold aggN at h
  split at h <;> try (simp at h; done)
  · simp only [Option.some.injEq] at h; exact ⟨_, ‹_›, h⟩
  · simp only [Option.some.injEq] at h; exact ⟨_, ‹_›, h⟩

theorem setCells_length : ∀ (vs : List SV) (cs : List Cell) (off : Nat), (setCells cs off vs).length = cs.length
  | [], _, _ => rfl
  | v :: vs, cs, off => by rw [setCells, setCells_length vs]; simp

theorem setCells_get : ∀ (vs : List SV) (cs : List Cell) (off : Nat), off + vs.length ≤ cs.length → ∀ j, (setCells cs off vs)[j]? = if off ≤ j ∧ j < off + vs.length then (vs[j - off]?).map .sv else cs[j]?
  | [], cs, off, _, j => by simp only [setCells, List.length_nil, Nat.add_zero]; rw [if_neg (by omega)]
  | v :: vs, cs, off, h, j => by
    simp only [List.length_cons] at h
    rw [setCells, setCells_get vs (cs.set off (.sv v)) (off + 1) (by simp; omega) j]
    simp only [List.length_cons]
    by_cases e : j = off
    · subst e
      rw [if_neg (by omega), if_pos (by omega), List.getElem?_set]
      have : j < cs.length := by omega
      simp [this]
    · by_cases h1 : off + 1 ≤ j ∧ j < off + 1 + vs.length
      · rw [if_pos h1, if_pos (by omega)]
        have : j - off = (j - (off + 1)) + 1 := by omega
        rw [this, List.getElem?_cons_succ]
      · rw [if_neg h1, if_neg (by omega), List.getElem?_set, if_neg (by omega)]

theorem splice_getD (l m : List Value) (o : Nat) (h : o + m.length ≤ l.length) (j : Nat) : ((l.take o ++ m ++ l.drop (o + m.length)).toArray).getD j undef = if o ≤ j ∧ j < o + m.length then m.getD (j - o) undef else l.getD j undef := by
  simp only [Array.getD_eq_getD_getElem?, List.getElem?_toArray, List.getD_eq_getElem?_getD]
  congr 1
  by_cases h1 : j < o
  · rw [if_neg (by omega), List.append_assoc, List.getElem?_append_left (by simp; omega), List.getElem?_take, if_pos h1]
  · by_cases h2 : j < o + m.length
    · rw [if_pos (by omega), List.append_assoc, List.getElem?_append_right (by simp; omega), List.getElem?_append_left (by simp; omega)]
      have e1 : (l.take o).length = o := by simp; omega
      rw [e1]
    · rw [if_neg (by omega), List.getElem?_append_right (by simp; omega), List.getElem?_drop]
      have e1 : (l.take o ++ m).length = o + m.length := by simp; omega
      have e2 : o + m.length + (j - (l.take o ++ m).length) = j := by rw [e1]; omega
      rw [e2]

/-- A store of one cell. -/
theorem R.store1 (hR : R P γ a w s) {i off blk : Nat} {cs : List Cell} (hi : s.bx[i]? = some (.live cs)) (hk : γ.β[i]? = some blk) (ho : off < cs.length) {c : Cell} {u : Value} (hc : RepC P γ w i off c u) (h1 : u.oneCell' = true) (hu : u.cells = #[u]) {t : TypeId} {inf : TypeInfo} (hinf : P.info? t = some inf) (hs : inf.size = 1) :
    ∃ w', (Instr.storeAt t (.pointer (some ⟨blk, off, none⟩)) u).run P w = .ok () w' ∧ R P γ a w' { s with bx := s.bx.set i (.live (cs.set off c)), lz := none } ∧ Ext γ w γ w' := by
  obtain ⟨arr, ty, m, k1, ⟨k2, kf⟩, k3, k4⟩ := hR.bx.box i _ blk hi hk
  refine ⟨_, run_storeAt k1 (fun j h1 h2 => kf j (by omega)) hinf (by rw [hu, hs]; rfl) (by rw [hs]; omega) (by rw [hu]; simpa using h1), ?_⟩
  rw [hu, hs]
  have hl : (arr.toList.take off ++ #[u].toList ++ arr.toList.drop (off + 1)).length = arr.size := by simp; omega
  refine hR.setBox hi hk k1 (by simp only [List.size_toArray, hl]) (by simp only [List.size_toArray, hl, List.length_set]; omega) (by simpa using kf) (fun j c' hc' => ?_)
  have hg := splice_getD arr.toList [u] off (by simp; omega) j
  simp only [List.length_singleton] at hg
  rw [hg]
  rw [List.getElem?_set] at hc'
  by_cases e : off = j
  · subst e
    simp only [if_true, ho, Option.some.injEq] at hc'
    subst hc'
    rw [if_pos (by omega)]
    simpa using hc
  · rw [if_neg e] at hc'
    rw [if_neg (by omega)]
    have := k3 j c' hc'
    simpa [Array.getD_eq_getD_getElem?, List.getD_eq_getElem?_getD] using this

theorem R.storeN (hR : R P γ a w s) {i off blk : Nat} {cs : List Cell} (hi : s.bx[i]? = some (.live cs)) (hk : γ.β[i]? = some blk) {vs : List SV} {us : Array Value} (hl : us.size = vs.length) (ho : off + vs.length ≤ cs.length)
    (hr : ∀ (j : Nat) (x : SV), vs[j]? = some x → x.one = true ∧ RepS γ.F x (us.getD j undef)) {t : TypeId} {inf : TypeInfo} (hinf : P.info? t = some inf) (hs : inf.size = vs.length) :
    ∃ w', (Instr.storeAt t (.pointer (some ⟨blk, off, none⟩)) (.agg us)).run P w = .ok () w' ∧ R P γ a w' { s with bx := s.bx.set i (.live (setCells cs off vs)), lz := none } ∧ Ext γ w γ w' := by
  obtain ⟨arr, ty, m, k1, ⟨k2, kf⟩, k3, k4⟩ := hR.bx.box i _ blk hi hk
  have hone : ∀ x ∈ us.toList, x.oneCell' = true := by
    intro x hx
    obtain ⟨j, hj⟩ := List.getElem?_of_mem hx
    have hlt : j < us.size := by have := (List.getElem?_eq_some_iff.1 hj).1; simpa using this
    have hjv : j < vs.length := by omega
    obtain ⟨h1, h2⟩ := hr j vs[j] (by simp [hjv])
    have : us.getD j undef = x := by
      simp only [Array.getElem?_toList] at hj
      simp [Array.getD_eq_getD_getElem?, hj]
    rw [this] at h2
    exact h2.oneCell h1
  refine ⟨_, run_storeAt k1 (fun j h1 h2 => kf j (by omega)) hinf (by simp [Value.cells, hs, hl]) (by rw [hs]; omega) (by simpa [Value.cells] using hone), ?_⟩
  have hcl : (Value.agg us).cells = us := rfl
  rw [hcl, hs]
  have hul : us.toList.length = vs.length := by simpa using hl
  refine hR.setBox hi hk k1 (by simp; omega) (by rw [setCells_length]; simp; omega) (by rw [setCells_length]; exact kf) (fun j c' hc' => ?_)
  have hg := splice_getD arr.toList us.toList off (by simp; omega) j
  rw [hul] at hg
  rw [hg]
  rw [setCells_get vs cs off ho j] at hc'
  by_cases e : off ≤ j ∧ j < off + vs.length
  · rw [if_pos e] at hc'
    rw [if_pos e]
    obtain ⟨x, hx, rfl⟩ := Option.map_eq_some_iff.1 hc'
    have := hr _ x hx
    simpa [Array.getD_eq_getD_getElem?, List.getD_eq_getElem?_getD, RepC] using this
  · rw [if_neg e] at hc'
    rw [if_neg e]
    have := k3 j c' hc'
    simpa [Array.getD_eq_getD_getElem?, List.getD_eq_getElem?_getD] using this

theorem op_store (hR : R P γ a w s) (hG : GlobOK E γ) {t : TypeId} {n : Option Nat} {p v : Operand} {p' v' : Opd} (ho : o.op = .store t p v) (hp : opd p = some p') (hv : opd v = some v') (hn : aggN P t = some n)
    (h : stepV E cf q o.dst s (.store n p' v') = some (av, s1)) : Done P γ a w o av s1 := by
  have hpr := ev_rep hR hG hp
  have hvr := ev_rep hR hG hv
  simp only [stepV] at h
  split at h <;> simp only [Option.some.injEq, Prod.mk.injEq, reduceCtorEq] at h
  rename_i s2 hst
  obtain ⟨rfl, rfl⟩ := h
  have key : ∃ w' γ', (Instr.storeAt t (a.eval p) (a.eval v)).run P w = .ok () w' ∧ Ext γ w γ' w' ∧ R P γ' a w' s2 := by
    unfold doStore at hst
    split at hst <;> try (simp at hst; done)
    rename_i i off hpe
    rw [hpe] at hpr
    generalize hpv : a.eval p = pv at hpr
    cases hpr with
    | ptr _ _ blk hblk =>
    split at hst <;> try (simp at hst; done)
    rename_i cs hcs
    split at hst
    · obtain ⟨inf, hinf, hsz⟩ := aggN_none hn
      split at hst <;> try (simp at hst; done)
      rename_i hoff
      split at hst <;> try (simp at hst; done)
      · rename_i e xs hown
        simp only [Option.some.injEq] at hst
        subst hst
        obtain ⟨m, rfl, hm, hrd⟩ := own_opd hown
        obtain ⟨r1, r2⟩ := hR.disown hm
        cases v with
        | tmp tt =>
          simp only [opd, Option.some.injEq, Opd.t.injEq] at hv
          subst hv
          rw [hrd] at r2
          have r3 := r1.mvRet (.cell i off)
          have r4 := RepA.mv_same (ℓ' := .cell i off) r2
          have hbx : (s.disown tt).bx = s.bx := by unfold St.disown; split <;> rfl
          cases r4 with
          | own _ _ _ hO =>
            obtain ⟨w', e1, e2, e3⟩ := r3.store1 (i := i) (off := off) (blk := blk) (cs := cs) (by rw [hbx]; exact hcs) (by simpa [Gh.mv] using hblk) hoff (c := .own e xs) hO (RepS.oneCell hO.rep rfl) (RepS.cells_one hO.rep rfl) hinf hsz
            refine ⟨w', _, e1, ((Gh.mv_ext _ _ _ _).trans (Gh.mv_ext _ _ _ _)).trans e3, ?_⟩
            rw [hbx] at e2
            exact e2
        | const c => simp only [opd, Option.map_eq_some_iff] at hv; obtain ⟨_, _, h⟩ := hv; simp at h
        | global g => simp [opd] at hv
        | func f => simp [opd] at hv
      · rename_i x hx1 hx2 hx3 hx4 hve
        simp only [Option.some.injEq] at hst
        subst hst
        rw [hve] at hvr
        have hone : x.one = true := by cases x <;> first | rfl | exact absurd rfl (hx1 _) | exact absurd rfl (hx2 _) | exact absurd rfl hx3 | exact absurd rfl hx4
        obtain ⟨w', e1, e2, e3⟩ := hR.store1 (i := i) (off := off) (blk := blk) (cs := cs) hcs hblk hoff (c := .sv x) (u := a.eval v) ⟨hone, hvr.sv_inv⟩ (hvr.sv_inv.oneCell hone) (hvr.sv_inv.cells_one hone) hinf hsz
        exact ⟨w', _, e1, e3, e2⟩
      · rename_i j o' hve
        by_cases hlk : s.lk = true
        · rw [if_pos hlk] at hst
          simp only [Option.some.injEq] at hst
          subst hst
          rw [hve] at hvr
          generalize a.eval v = uv at hvr ⊢
          cases hvr with
          | ptr _ _ b2 hb2 =>
            obtain ⟨w', e1, e2, e3⟩ := hR.store1 (i := i) (off := off) (blk := blk) (cs := cs) hcs hblk hoff (c := .lnk j o') (u := .pointer (some ⟨b2, o', none⟩)) ⟨b2, hb2, rfl⟩ rfl rfl hinf hsz
            exact ⟨w', _, e1, e3, e2⟩
        rw [if_neg hlk] at hst
        split at hst <;> try (simp at hst; done)
        rename_i x s' hsk
        split at hst <;> try (simp at hst; done)
        rename_i cs' hcs'
        split at hst <;> simp only [Option.some.injEq, reduceCtorEq] at hst
        rename_i hoff'
        subst hst
        rw [hve] at hvr
        have hone : x.one = true := by
          simp only [sink] at hsk
          split at hsk <;> simp only [Option.some.injEq, Prod.mk.injEq, reduceCtorEq] at hsk
          rw [← hsk.1]; rfl
        obtain ⟨γ1, g1, g2, g3, g4, g5, g6, g7⟩ := sink_ok hR hvr hsk
        obtain ⟨w', e1, e2, e3⟩ := g1.store1 (i := i) (off := off) (blk := blk) (cs := cs') hcs' (by rw [g7]; exact hblk) hoff' (c := .sv x) (u := a.eval v) ⟨hone, g3⟩ (g3.oneCell hone) (g3.cells_one hone) hinf hsz
        exact ⟨w', _, e1, g2.trans e3, e2⟩
      · rename_i j n2 k2 hve
        split at hst <;> simp only [Option.some.injEq, reduceCtorEq] at hst
        subst hst
        rw [hve] at hvr
        generalize a.eval v = uv at hvr ⊢
        cases hvr with
        | mrow _ _ _ b2 c2 hb2 hc2 =>
          obtain ⟨w', e1, e2, e3⟩ := hR.store1 (i := i) (off := off) (blk := blk) (cs := cs) hcs hblk hoff (c := .lrw j n2 k2) (u := .slice (some ⟨b2, 0, none⟩) n2 c2) ⟨b2, c2, hb2, hc2, rfl⟩ rfl rfl hinf hsz
          exact ⟨w', _, e1, e3, e2⟩
      · rename_i j n2 k2 e2 hve
        split at hst <;> simp only [Option.some.injEq, reduceCtorEq] at hst
        subst hst
        rw [hve] at hvr
        generalize a.eval v = uv at hvr ⊢
        cases hvr with
        | grw _ _ _ _ b2 c2 hb2 _ hc2 _ _ =>
          obtain ⟨w', e1, e2, e3⟩ := hR.store1 (i := i) (off := off) (blk := blk) (cs := cs) hcs hblk hoff (c := .lrw j n2 k2) (u := .slice (some ⟨b2, 0, none⟩) n2 c2) ⟨b2, c2, hb2, hc2, rfl⟩ rfl rfl hinf hsz
          exact ⟨w', _, e1, e3, e2⟩
    · rename_i k
      obtain ⟨inf, hinf, hsz⟩ := aggN_some hn
      split at hst <;> try (simp at hst; done)
      rename_i vs hve
      split at hst <;> simp only [Option.some.injEq, reduceCtorEq] at hst
      rename_i hlen
      subst hst
      rw [hve] at hvr
      obtain ⟨us, hu, hs, h1, h2⟩ := hvr.sv_inv.agg_inv
      rw [hu]
      obtain ⟨w', e1, e2, e3⟩ := hR.storeN (i := i) (off := off) (blk := blk) (cs := cs) hcs hblk (vs := vs) (us := us) hs (by rw [hlen.1]; exact hlen.2) (fun j x hx => ⟨h1 j x hx, h2 j x hx⟩) hinf (by rw [hsz, hlen.1])
      exact ⟨w', _, e1, e3, e2⟩
  obtain ⟨w', γ', k1, k2, k3⟩ := key
  refine ⟨undef, w', γ', .inr ⟨?_, rfl⟩, k2, k3, .sv _ _ _ (.undef _)⟩
  simp only [execOp, ho, Sem.run_bind, k1, Result.andThen_ok]
  rfl

theorem linkAt_rep (hb : BoxesOK P γ w s.bx) {ℓ : Loc} {u : Value} (h : RepA P γ w ℓ av u) {n : Option Nat} {v : AV} (e : linkAt s n av = some v) :
    n = none ∧ v.isOwn = false ∧ ∃ (b off : Nat) (x : Value), u = .pointer (some ⟨b, off, none⟩) ∧ w.cell? ⟨b, off, none⟩ = some x ∧ RepA P γ w .ret v x := by
  unfold linkAt at e
  split at e <;> try (simp at e; done)
  rename_i i off
  refine ⟨rfl, ?_⟩
  cases h with
  | ptr _ _ blk hblk =>
    split at e <;> try (simp at e; done)
    rename_i cs hcs
    obtain ⟨arr, t, m, k1, ⟨k2, _⟩, k3, _⟩ := hb.box i _ blk hcs hblk
    split at e <;> simp only [Option.some.injEq, reduceCtorEq] at e
    · rename_i j o hc
      subst e
      obtain ⟨b, e1, e2⟩ := k3 _ _ hc
      have hlt : off < arr.size := by have := (List.getElem?_eq_some_iff.1 hc).1; omega
      refine ⟨rfl, blk, off, _, rfl, ?_, .ptr _ _ _ b e1⟩
      rw [cell_of_row w blk off arr t m k1, ← e2]
      simp [Array.getD_eq_getD_getElem?, Array.getElem?_eq_getElem hlt]
    · rename_i j n k hc
      subst e
      obtain ⟨b, c, e1, e3, e2⟩ := k3 _ _ hc
      have hlt : off < arr.size := by have := (List.getElem?_eq_some_iff.1 hc).1; omega
      refine ⟨rfl, blk, off, _, rfl, ?_, .mrow _ _ _ _ b c e1 e3⟩
      rw [cell_of_row w blk off arr t m k1, ← e2]
      simp [Array.getD_eq_getD_getElem?, Array.getElem?_eq_getElem hlt]

theorem tidyAt_ok (q : Bool) (n : Option Nat) (p : AV) (hR : R P γ a w s) : ∃ γ', R P γ' a w (tidyAt q s n p) ∧ Ext γ w γ' w ∧ (tidyAt q s n p).tm = s.tm ∧ (tidyAt q s n p).df = s.df ∧ γ'.β = γ.β := by
  have triv : ∃ γ', R P γ' a w s ∧ Ext γ w γ' w ∧ s.tm = s.tm ∧ s.df = s.df ∧ γ'.β = γ.β := ⟨γ, hR, Ext.refl _ _, rfl, rfl, rfl⟩
  unfold tidyAt
  split
  rotate_left
  · exact triv
  split
  · split
    · exact tidyCs_ok _ _ 0 γ s hR
    · exact triv
  · exact triv

theorem tidyHead_ok : ∀ (os : List SOp) (γ : Gh) (s : St), R P γ a w s → ∃ γ', R P γ' a w (tidyHead os s) ∧ Ext γ w γ' w ∧ (tidyHead os s).tm = s.tm ∧ (tidyHead os s).df = s.df ∧ γ'.β = γ.β
  | [], γ, s, hR => ⟨γ, hR, Ext.refl _ _, rfl, rfl, rfl⟩
  | o :: os, γ, s, hR => by
    simp only [tidyHead]
    split
    · rename_i k t _
      obtain ⟨γ1, h1, h2, h3, h4, h5⟩ := tidyAt_ok false (some k) (s.rd t) hR
      obtain ⟨γ2, g1, g2, g3, g4, g5⟩ := tidyHead_ok os γ1 _ h1
      exact ⟨γ2, g1, h2.trans g2, g3.trans h3, g4.trans h4, g5.trans h5⟩
    · exact tidyHead_ok os γ s hR

theorem tidyHeadIf_ok (os : List SOp) (hR : R P γ a w s) : ∃ γ', R P γ' a w (if s.lk then tidyHead os s else s) ∧ Ext γ w γ' w := by
  split
  · obtain ⟨γ1, h1, h2, _⟩ := tidyHead_ok os γ s hR
    exact ⟨γ1, h1, h2⟩
  · exact ⟨γ, hR, Ext.refl _ _⟩

theorem op_load (hR : R P γ a w s) (hG : GlobOK E γ) {t : TypeId} {n : Option Nat} {x : Operand} {x' : Opd} (ho : o.op = .load t x) (hn : aggN P t = some n) (hx : opd x = some x')
    (h : stepV E cf q o.dst s (.load n x') = some (av, s1)) : Done P γ a w o av s1 := by
  simp only [stepV] at h
  split at h
  · rename_i v hv
    simp only [Option.some.injEq, Prod.mk.injEq] at h
    obtain ⟨rfl, rfl⟩ := h
    obtain ⟨rfl, h1, b, off, u, hu, hc, hr⟩ := linkAt_rep hR.bx (ev_rep hR hG hx) hv
    obtain ⟨g1, _⟩ := run_isAgg (P := P) (w := w) hn
    refine Done.same hR ?_ hr h1
    simp only [execOp, ho, hu]
    simp [Instr.loadAt, Instr.sureAddr, loadVar, g1, hc]
  · obtain ⟨γ2, hR2, he2, htm, hdf, hβ⟩ := tidyAt_ok q n (x'.ev E s) hR
    split at h <;> try (simp at h; done)
    rename_i cs hcs
    split at h <;> try (simp at h; done)
    rename_i v hvv
    simp only [Option.some.injEq, Prod.mk.injEq] at h
    obtain ⟨rfl, rfl⟩ := h
    have hxr := ev_rep hR2 (hG.mono he2.F) hx
    rw [ev_of_tm htm] at hxr
    obtain ⟨b, off, vs, hu, hc⟩ := cellsAt_rep hR2.bx hxr hcs
    obtain ⟨u, k1, k2⟩ := run_loadVar (P := P) (w := w) hn hc hvv
    refine ⟨u, w, γ2, .inl ?_, he2, hR2, .sv _ _ _ k2⟩
    simp only [execOp, ho, hu]
    simp [Instr.loadAt, Instr.sureAddr, k1]

end Go.Ev

set_option linter.unusedSimpArgs false
set_option linter.unusedVariables false
namespace Go.Ev
variable {P : Program} {E : Env} {γ : Gh} {a : Act} {w : World} {s : St} {o : Oper} {cf : CallF} {q : Bool} {s1 : St} {av : AV}

theorem mapOpt_spec {α β : Type} {f : α → Option β} : ∀ {xs : List α} {ys : List β}, mapOpt f xs = some ys → ys.length = xs.length ∧ ∀ (j : Nat) (x : α), xs[j]? = some x → ∃ y, ys[j]? = some y ∧ f x = some y
  | [], ys, h => by simp only [mapOpt, Option.some.injEq] at h; subst h; simp
  | x :: xs, ys, h => by
    simp only [mapOpt] at h
    split at h <;> try (simp at h; done)
    rename_i y hy
    split at h <;> simp only [Option.some.injEq, reduceCtorEq] at h
    rename_i ys' hys
    subst h
    obtain ⟨h1, h2⟩ := mapOpt_spec hys
    refine ⟨by simp [h1], fun j z hz => ?_⟩
    cases j with
    | zero => simp only [List.getElem?_cons_zero, Option.some.injEq] at hz; subst hz; exact ⟨y, by simp, hy⟩
    | succ j => simpa using h2 j z (by simpa using hz)

theorem opds_get {os : List Operand} {xs : List Opd} (h : allSome (os.map opd) = some xs) : xs.length = os.length ∧ ∀ (j : Nat) (x : Opd), xs[j]? = some x → ∃ o, os[j]? = some o ∧ opd o = some x := by
  obtain ⟨h1, h2⟩ := allSome_spec h
  refine ⟨by simpa using h1, fun j x hx => ?_⟩
  have hlt : j < os.length := by have := (List.getElem?_eq_some_iff.1 hx).1; rw [h1] at this; simpa using this
  refine ⟨os[j], by simp [hlt], ?_⟩
  have h3 := h2 j x hx
  rw [List.getElem?_map, List.getElem?_eq_getElem hlt] at h3
  simpa using h3

theorem two_args {os : List Operand} {a b : Opd} (h : allSome (os.map opd) = some [a, b]) : ∃ x y, os = [x, y] ∧ opd x = some a ∧ opd y = some b := by
  obtain ⟨hl, h2⟩ := opds_get h
  match os, hl with
  | [x, y], _ =>
    refine ⟨x, y, rfl, ?_, ?_⟩
    · obtain ⟨z, hz, hzo⟩ := h2 0 a rfl
      simp only [List.getElem?_cons_zero, Option.some.injEq] at hz
      subst hz; exact hzo
    · obtain ⟨z, hz, hzo⟩ := h2 1 b rfl
      simp only [List.getElem?_cons_succ, List.getElem?_cons_zero, Option.some.injEq] at hz
      subst hz; exact hzo

theorem args_rep (hR : R P γ a w s) (hG : GlobOK E γ) {os : List Operand} {xs : List Opd} (h : allSome (os.map opd) = some xs) (ℓ : Loc) (j : Nat) (x : AV) (hx : (xs.map fun x => (Opd.ev E s x).arg)[j]? = some x) : x.isOwn = false ∧ ∃ o, os[j]? = some o ∧ RepA P γ w ℓ x (a.eval o) := by
  rw [List.getElem?_map] at hx
  obtain ⟨y, hy, rfl⟩ := Option.map_eq_some_iff.1 hx
  obtain ⟨o, ho, hop⟩ := (opds_get h).2 j y hy
  obtain ⟨k1, k2⟩ := (ev_rep hR hG hop).arg ℓ
  exact ⟨k2, o, ho, k1⟩

theorem map_getD {os : Array Operand} {f : Operand → Value} {j : Nat} {o : Operand} (h : os.toList[j]? = some o) : (os.map f).getD j undef = f o := by
  simp only [Array.getElem?_toList] at h
  simp [Array.getD_eq_getD_getElem?, h]

theorem op_mkF (hR : R P γ a w s) (hG : GlobOK E γ) {f : Nat} {first cap : Array Operand} {l1 l2 : List Opd} (ho : o.op = .makeFunc (.func f) first cap) (h1 : allSome (first.toList.map opd) = some l1) (h2 : allSome (cap.toList.map opd) = some l2)
    (h : stepV E cf q o.dst s (.mkF f l1 l2) = some (av, s1)) : Done P γ a w o av s1 := by
  have hrun : (execOp a.eval o).run P w = .ok (.value (.func (.func f) (first.map a.eval) (cap.map a.eval))) w := by
    simp only [execOp, ho, Instr.makeFunc]; rfl
  simp only [stepV] at h
  split at h <;> simp only [Option.some.injEq, Prod.mk.injEq] at h <;> obtain ⟨rfl, rfl⟩ := h
  · rename_i a' b' ha hb
    obtain ⟨la, ka⟩ := mapOpt_spec ha
    obtain ⟨lb, kb⟩ := mapOpt_spec hb
    have aux : ∀ {os : Array Operand} {l : List Opd} {r : List SV}, allSome (os.toList.map opd) = some l → mapOpt (fun x => argSV (Opd.ev E s x).arg) l = some r → (os.map a.eval).size = r.length ∧ ∀ (j : Nat) (x : SV), r[j]? = some x → RepS γ.F x ((os.map a.eval).getD j undef) := by
      intro os l r hl hr
      obtain ⟨q1, q2⟩ := mapOpt_spec hr
      have q3 := (opds_get hl).1
      refine ⟨by simp [q1, q3], fun j x hx => ?_⟩
      have hj : j < l.length := by rw [← q1]; exact (List.getElem?_eq_some_iff.1 hx).1
      obtain ⟨y, hy, hf⟩ := q2 j l[j] (by simp [hj])
      rw [hx] at hy
      obtain rfl := Option.some.inj hy
      obtain ⟨_, o', ho', hr'⟩ := args_rep hR hG hl .ret j (Opd.ev E s l[j]).arg (by simp [List.getElem?_map, hj])
      rw [map_getD ho']
      unfold argSV at hf
      split at hf <;> simp only [Option.some.injEq, reduceCtorEq] at hf
      subst hf
      rename_i hv
      rw [hv] at hr'
      exact hr'.sv_inv
    obtain ⟨s1, r1⟩ := aux h1 ha
    obtain ⟨s2, r2⟩ := aux h2 hb
    exact Done.sv hR hrun (.fn _ _ _ _ _ s1 s2 r1 r2)
  · have aux : ∀ {os : Array Operand} {l : List Opd}, allSome (os.toList.map opd) = some l → (os.map a.eval).size = (l.map fun x => (Opd.ev E s x).arg).length ∧ ∀ (j : Nat) (x : AV), (l.map fun x => (Opd.ev E s x).arg)[j]? = some x → x.isOwn = false ∧ RepA P γ w .ret x ((os.map a.eval).getD j undef) := by
      intro os l hl
      refine ⟨by simp [(opds_get hl).1], fun j x hx => ?_⟩
      obtain ⟨k1, o', ho', k2⟩ := args_rep hR hG hl .ret j x hx
      rw [map_getD ho']
      exact ⟨k1, k2⟩
    obtain ⟨q1, r1⟩ := aux h1
    obtain ⟨q2, r2⟩ := aux h2
    exact Done.same (ℓ := .ret) hR hrun (.clo _ _ _ _ _ _ q1 q2 (fun j x hx => (r1 j x hx).1) (fun j x hx => (r2 j x hx).1) (fun j x hx => (r1 j x hx).2) (fun j x hx => (r2 j x hx).2)) rfl

/-! ### Strings of bytes -/

theorem bytesSV_get (l : List UInt8) (j : Nat) : (bytesSV l)[j]? = (l[j]?).map fun b => .int .u8 b.toNat := by simp [bytesSV]

theorem flat_bytes (l : List UInt8) : flat (bytesSV l) = bytesSV l := flat_ones (fun j x hx => by
  rw [bytesSV_get] at hx
  obtain ⟨b, _, rfl⟩ := Option.map_eq_some_iff.1 hx
  rfl)

/-- New cells that stay. -/
theorem R.stay_new (hR : R P γ a w s) {w' : World} (hos : w'.os = w.os) (hta : w'.tape = w.tape) (hou : w'.output = w.output) (hsz : w.heap.size ≤ w'.heap.size)
    (hbl : ∀ b, b < w.heap.size → w'.heap[b]? = w.heap[b]?) :
    ∃ γ', Fresh γ w γ' w' ∧ R P γ' a w' s ∧ ∀ b o v, w.heap.size ≤ b → w'.cell? ⟨b, o, none⟩ = some v → γ'.F b o v := by
  let γ' : Gh := { γ with F := fun b o v => γ.F b o v ∨ (w.heap.size ≤ b ∧ w'.cell? ⟨b, o, none⟩ = some v) }
  have hf : Fresh γ w γ' w' := by
    refine ⟨hos, hta, hou, hsz, hbl, fun _ _ _ h => .inl h, fun b o v hb h => ?_, fun b o v h => ?_, rfl, rfl, fun b hb => rfl, fun b ℓ hb ho => ?_⟩
    · rcases h with h | ⟨h, _⟩
      · exact h
      · omega
    · rcases h with h | ⟨_, h⟩
      · have hc := hR.bx.Fw _ _ _ h
        exact (World.cell?_of_block (w := w) (hbl b (lt_of_cell hc))).trans hc
      · exact h
    · have := (hR.bx.ow b ℓ ho).1; omega
  exact ⟨γ', hf, hf.R hR, fun b o v h1 h2 => .inr ⟨h1, h2⟩⟩

theorem op_s2b (hR : R P γ a w s) (hG : GlobOK E γ) {t d e : TypeId} {x : Operand} {x' : Opd} (ho : o.op = .convert t d x) (ht : P.underlying t = some .string) (hd : P.underlying d = some (.slice e)) (he : P.underlying e = some (.int .u8)) (hx : opd x = some x')
    (h : stepV E cf q o.dst s (.s2b x') = some (av, s1)) : Done P γ a w o av s1 := by
  simp only [stepV] at h
  split at h <;> simp only [Option.some.injEq, Prod.mk.injEq, reduceCtorEq] at h
  rename_i l hl
  obtain ⟨rfl, rfl⟩ := h
  have hv := (ev_rep hR hG hx).str hl
  have hsz : (⟨l.toArray⟩ : ByteArray).size = l.length := by simp [ByteArray.size]
  have hrun := run_bytes_of_string (P := P) w t d e ⟨l.toArray⟩ ht hd he
  rw [hsz] at hrun
  generalize hC : bytesRow ⟨l.toArray⟩ (grownCap w l.length 0 e) = C at hrun
  obtain ⟨γ', h1, h2, h3⟩ := R.stay_new (P := P) hR (w' := w.drew.alloc (.cells C e (C.size, C.size + 1))) rfl rfl rfl (by simp) (fun b hb => heap_alloc_old w.drew _ b hb)
  refine ⟨_, _, γ', .inl ?_, h1.ext, h2, .sv _ _ (.slice (some ⟨w.heap.size, 0, none⟩) l.length (grownCap w l.length 0 e)) ?_⟩
  · simp only [execOp, ho, hv, Sem.run_bind, hrun, Result.andThen_ok]; rfl
  · by_cases hne : l = []
    · subst hne; exact .slE _ _
    · have hge : l.length ≤ grownCap w l.length 0 e := grownCap_ge w l.length 0 e
      have hlen : (bytesSV l).length = l.length := by simp [bytesSV]
      have hcell : ∀ j (b : UInt8), l[j]? = some b → (w.drew.alloc (.cells C e (C.size, C.size + 1))).cell? ⟨w.heap.size, 0 + j, none⟩ = some (.int .u8 b.toNat) := by
        intro j b hj
        have hh : (w.drew.alloc (.cells C e (C.size, C.size + 1))).heap[w.heap.size]? = some (.cells C e (C.size, C.size + 1)) := heap_alloc_new w.drew _
        rw [Nat.zero_add, cell_of_row _ _ _ C e _ hh, ← hC]
        have hjl : j < l.length := (List.getElem?_eq_some_iff.1 hj).1
        have := bytesRow_at ⟨l.toArray⟩ (grownCap w l.length 0 e) j (by simpa using hjl)
        rw [this]
        simp only [List.getElem_toArray]
        have := (List.getElem?_eq_some_iff.1 hj).2
        rw [this]
      rw [show Value.slice (some ⟨w.heap.size, 0, none⟩) l.length (grownCap w l.length 0 e) = .slice (some ⟨w.heap.size, 0, none⟩) (bytesSV l).length (grownCap w l.length 0 e) from by rw [hlen]]
      refine .sl _ w.heap.size 0 _ 1 (fun j => .int .u8 ((l.getD j 0).toNat)) (by omega) (by intro e; apply hne; simpa [bytesSV] using e) (by rw [hlen]; exact hge) (fun x hx => ?_) (fun j hj => ?_) (fun j x hx => ?_) (fun j x hx => ?_)
      · obtain ⟨j, hj⟩ := List.getElem?_of_mem hx
        rw [bytesSV_get] at hj
        obtain ⟨b, _, rfl⟩ := Option.map_eq_some_iff.1 hj
        rfl
      · have hjl : j < l.length := by rw [hlen] at hj; omega
        exact h3 _ _ _ (Nat.le_refl _) (by simpa [List.getD_eq_getElem?_getD, hjl] using hcell j l[j] (by simp [hjl]))
      · rw [flat_bytes, bytesSV_get] at hx
        obtain ⟨b, _, rfl⟩ := Option.map_eq_some_iff.1 hx
        rfl
      · rw [flat_bytes, bytesSV_get] at hx
        obtain ⟨b, hb, rfl⟩ := Option.map_eq_some_iff.1 hx
        simp only [List.getD_eq_getElem?_getD, hb, Option.getD_some]
        exact .int _ _

theorem op_s2r (hR : R P γ a w s) (hG : GlobOK E γ) {t d e : TypeId} {x : Operand} {x' : Opd} (ho : o.op = .convert t d x) (ht : P.underlying t = some .string) (hd : P.underlying d = some (.slice e)) (he : P.underlying e = some (.int .u8)) (hx : opd x = some x')
    (h : stepV E cf q o.dst s (.s2r x') = some (av, s1)) : Done P γ a w o av s1 := by
  simp only [stepV] at h
  split at h <;> try (simp at h; done)
  rename_i l hl
  have hv := (ev_rep hR hG hx).str hl
  have hsz : (⟨l.toArray⟩ : ByteArray).size = l.length := by simp [ByteArray.size]
  have hrun := run_bytes_of_string (P := P) w t d e ⟨l.toArray⟩ ht hd he
  rw [hsz] at hrun
  generalize hC : bytesRow ⟨l.toArray⟩ (grownCap w l.length 0 e) = C at hrun
  split at h
  rotate_left
  · rename_i hq
    simp only [Option.some.injEq, Prod.mk.injEq] at h
    obtain ⟨rfl, rfl⟩ := h
    have hge : l.length ≤ grownCap w l.length 0 e := grownCap_ge w l.length 0 e
    have hCs : C.size = grownCap w l.length 0 e := by rw [← hC]; simp [bytesRow]; rw [hsz]; omega
    have hf : Fresh γ w γ (w.drew.alloc (.cells C e (C.size, C.size + 1))) := by
      refine ⟨rfl, rfl, rfl, by simp, fun b hb => heap_alloc_old w.drew _ b hb, fun _ _ _ h => h, fun _ _ _ _ h => h, fun b o' v h => ?_, rfl, rfl, fun _ _ => rfl, fun b ℓ hl ho => by have := (hR.bx.ow b ℓ ho).1; omega⟩
      have hc := hR.bx.Fw _ _ _ h
      exact (World.cell?_of_block (w := w) (heap_alloc_old w.drew _ b (lt_of_cell hc))).trans hc
    have hnF : ∀ o v, ¬ γ.F w.heap.size o v := fun o v h => by have := lt_of_cell (hR.bx.Fw _ _ _ h); omega
    have hnβ : w.heap.size ∉ γ.β := fun h => by have := hR.bx.β_lt h; omega
    have hno : γ.ow w.heap.size = none := by
      cases h : γ.ow w.heap.size with
      | none => rfl
      | some ℓ => have := (hR.bx.ow _ _ h).1; omega
    have hlen : (bytesSV l).length = l.length := by simp [bytesSV]
    have hadd := (hf.R hR).addBox (blk := w.heap.size) (arr := C) (t := e) (m := (C.size, C.size + 1)) (heap_alloc_new w.drew _) (fun j hj => absurd (List.mem_of_getElem? hj) hnβ) hno hnF (bytesSV l) (by omega) (fun j hj hm => by simp only at hm; omega) (fun j x hx => by
      rw [bytesSV_get] at hx
      obtain ⟨b, hb, rfl⟩ := Option.map_eq_some_iff.1 hx
      refine ⟨rfl, ?_⟩
      have hjl : j < l.length := (List.getElem?_eq_some_iff.1 hb).1
      have h4 := bytesRow_at ⟨l.toArray⟩ (grownCap w l.length 0 e) j (by simpa using hjl)
      have h5 : C.getD j undef = .int .u8 b.toNat := by
        rw [Array.getD_eq_getD_getElem?, ← hC, h4]
        simp only [List.getElem_toArray, Option.getD_some]
        rw [(List.getElem?_eq_some_iff.1 hb).2]
      rw [h5]
      exact .int _ _)
    refine ⟨_, _, _, .inl ?_, ?_, hadd, .mrow _ _ _ _ w.heap.size (grownCap w l.length 0 e) ?_ hge⟩
    · simp only [execOp, ho, hv, Sem.run_bind, hrun, Result.andThen_ok]; rfl
    · have he := hf.ext
      exact ⟨he.os, he.tape, he.output, he.size, he.F, ⟨[w.heap.size], rfl, by simp⟩, he.blk, he.Fnew, he.own, he.sh⟩
    · rw [List.getElem?_append_right (by rw [hR.bx.len]; omega), hR.bx.len]; simp
  simp only [Option.some.injEq, Prod.mk.injEq] at h
  obtain ⟨rfl, rfl⟩ := h
  obtain ⟨γ', h1, h2, h3⟩ := R.stay_new (P := P) hR (w' := w.drew.alloc (.cells C e (C.size, C.size + 1))) rfl rfl rfl (by simp) (fun b hb => heap_alloc_old w.drew _ b hb)
  refine ⟨_, _, γ', .inl ?_, h1.ext, h2, .sv _ _ (.slice (some ⟨w.heap.size, 0, none⟩) l.length (grownCap w l.length 0 e)) ?_⟩
  · simp only [execOp, ho, hv, Sem.run_bind, hrun, Result.andThen_ok]; rfl
  · by_cases hne : l = []
    · subst hne; exact .slE _ _
    · have hge : l.length ≤ grownCap w l.length 0 e := grownCap_ge w l.length 0 e
      have hlen : (bytesSV l).length = l.length := by simp [bytesSV]
      have hcell : ∀ j (b : UInt8), l[j]? = some b → (w.drew.alloc (.cells C e (C.size, C.size + 1))).cell? ⟨w.heap.size, 0 + j, none⟩ = some (.int .u8 b.toNat) := by
        intro j b hj
        have hh : (w.drew.alloc (.cells C e (C.size, C.size + 1))).heap[w.heap.size]? = some (.cells C e (C.size, C.size + 1)) := heap_alloc_new w.drew _
        rw [Nat.zero_add, cell_of_row _ _ _ C e _ hh, ← hC]
        have hjl : j < l.length := (List.getElem?_eq_some_iff.1 hj).1
        have := bytesRow_at ⟨l.toArray⟩ (grownCap w l.length 0 e) j (by simpa using hjl)
        rw [this]
        simp only [List.getElem_toArray]
        have := (List.getElem?_eq_some_iff.1 hj).2
        rw [this]
      rw [show Value.slice (some ⟨w.heap.size, 0, none⟩) l.length (grownCap w l.length 0 e) = .slice (some ⟨w.heap.size, 0, none⟩) (bytesSV l).length (grownCap w l.length 0 e) from by rw [hlen]]
      refine .sl _ w.heap.size 0 _ 1 (fun j => .int .u8 ((l.getD j 0).toNat)) (by omega) (by intro e; apply hne; simpa [bytesSV] using e) (by rw [hlen]; exact hge) (fun x hx => ?_) (fun j hj => ?_) (fun j x hx => ?_) (fun j x hx => ?_)
      · obtain ⟨j, hj⟩ := List.getElem?_of_mem hx
        rw [bytesSV_get] at hj
        obtain ⟨b, _, rfl⟩ := Option.map_eq_some_iff.1 hj
        rfl
      · have hjl : j < l.length := by rw [hlen] at hj; omega
        exact h3 _ _ _ (Nat.le_refl _) (by simpa [List.getD_eq_getElem?_getD, hjl] using hcell j l[j] (by simp [hjl]))
      · rw [flat_bytes, bytesSV_get] at hx
        obtain ⟨b, _, rfl⟩ := Option.map_eq_some_iff.1 hx
        rfl
      · rw [flat_bytes, bytesSV_get] at hx
        obtain ⟨b, hb, rfl⟩ := Option.map_eq_some_iff.1 hx
        simp only [List.getD_eq_getElem?_getD, hb, Option.getD_some]
        exact .int _ _

theorem svBytes_spec : ∀ {xs : List SV} {l : List UInt8}, svBytes xs = some l → ∃ ns : List Int, xs = ns.map (SV.int .u8) ∧ l = ns.map fun n => UInt8.ofNat n.toNat
  | [], l, h => by simp only [svBytes, Option.some.injEq] at h; subst h; exact ⟨[], rfl, rfl⟩
  | x :: xs, l, h => by
    unfold svBytes at h
    split at h
    · simp_all
    · rename_i n rest heq
      simp only [List.cons.injEq] at heq
      obtain ⟨rfl, rfl⟩ := heq
      split at h <;> simp only [Option.some.injEq, reduceCtorEq] at h
      rename_i l' hl
      subst h
      obtain ⟨ns, rfl, rfl⟩ := svBytes_spec hl
      exact ⟨n :: ns, rfl, rfl⟩
    · simp at h

theorem op_b2s (hR : R P γ a w s) (hG : GlobOK E γ) {t d e : TypeId} {x : Operand} {x' : Opd} (ho : o.op = .convert t d x) (ht : P.underlying t = some (.slice e)) (hd : P.underlying d = some .string) (he : P.underlying e = some (.int .u8)) (hx : opd x = some x')
    (h : stepV E cf q o.dst s (.b2s x') = some (av, s1)) : Done P γ a w o av s1 := by
  simp only [stepV] at h
  split at h <;> try (simp at h; done)
  rename_i xs s2 hxs
  obtain ⟨γ1, g1, g2, g3, _, _, _, _⟩ := sink_ok hR (ev_rep hR hG hx) (sinkQ_sink hxs)
  split at h <;> simp only [Option.some.injEq, Prod.mk.injEq, reduceCtorEq] at h
  rename_i l hl
  obtain ⟨rfl, rfl⟩ := h
  obtain ⟨ns, rfl, rfl⟩ := svBytes_spec hl
  have hfl : flat (ns.map (SV.int .u8)) = ns.map (SV.int .u8) := flat_ones (fun j x hx => by
    rw [List.getElem?_map] at hx
    obtain ⟨b, _, rfl⟩ := Option.map_eq_some_iff.1 hx
    rfl)
  refine ⟨.string ⟨(ns.map fun n => UInt8.ofNat n.toNat).toArray⟩, w, γ1, .inl ?_, g2, g1, .sv _ _ _ (.str _)⟩
  rcases g3.sl_inv with ⟨hnil, p, c, hu⟩ | ⟨b, off, c, k, vs, hu, hk, hne, hc, hlk, hF, _, hr⟩
  · have : ns = [] := by simpa using hnil
    subst this
    simp only [execOp, ho, hu, Sem.run_bind]
    rw [run_convert_bytes_string w t d e p 0 c ht he hd]
    cases p <;> simp [Conv.bytesToString, loadCells, loadCellsFrom] <;> rfl
  · rw [List.length_map] at hu hF hc
    obtain ⟨n0, hn0⟩ : ∃ n0, ns[0]? = some n0 := by
      cases ns with
      | nil => simp at hne
      | cons n ns => exact ⟨n, rfl⟩
    have hk1 : k = 1 := by
      have := hlk (.int .u8 n0) (List.mem_map.2 ⟨n0, List.mem_of_getElem? hn0, rfl⟩)
      simpa [SV.cells] using this.symm
    subst hk1
    have hcell : ∀ i, i < ns.length → w.cell? ⟨b, off + i, none⟩ = some (.int .u8 (ns.getD i 0)) := by
      intro i hi
      have h1 := g1.bx.Fw _ _ _ (hF i (by omega))
      have h2 := hr i (.int .u8 ns[i]) (by rw [hfl]; simp [hi])
      generalize vs i = vi at h1 h2
      cases h2
      simpa [List.getD_eq_getElem?_getD, hi] using h1
    have hrun := run_convert_bytes_arg (P := P) w t e ht he b off ns.length c ns rfl hcell d hd
    simp only [execOp, ho, hu, Sem.run_bind, hrun, Result.andThen_ok]
    rfl

/-! ### New rows -/

theorem replicate_get {zero : List SV} {e : Nat} (hz : zero.length = e) (n j : Nat) (x : SV) (h : ((List.replicate n zero).flatten)[j]? = some x) : j < n * e ∧ zero[j % e]? = some x := by
  induction n generalizing j with
  | zero => simp at h
  | succ n ih =>
    rw [List.replicate_succ, List.flatten_cons] at h
    by_cases hj : j < e
    · rw [List.getElem?_append_left (by omega)] at h
      refine ⟨by rw [Nat.add_mul]; omega, ?_⟩
      rw [Nat.mod_eq_of_lt hj]; exact h
    · rw [List.getElem?_append_right (by omega), hz] at h
      obtain ⟨h1, h2⟩ := ih (j - e) h
      refine ⟨by rw [Nat.add_mul]; omega, ?_⟩
      rw [← h2]
      congr 1
      exact Nat.mod_eq_sub_mod (by omega)

theorem op_mkR (hR : R P γ a w s) (hG : GlobOK E γ) {t e : TypeId} {k b : Nat} {z : List SV} {l c : Operand} {l' : Opd} (ho : o.op = .makeSlice t l c) (ht : P.underlying t = some (.slice e)) (hs : sizeB P e = some (k, b)) (hz : zeroSV P e = some z) (hk : 0 < k) (hl : opd l = some l') (hc : opd c = some l')
    (h : stepV E cf q o.dst s (.mkR k b z l') = some (av, s1)) : Done P γ a w o av s1 := by
  simp only [stepV] at h
  split at h <;> try (simp at h; done)
  split at h <;> try (simp at h; done)
  rename_i kd n hn
  split at h <;> simp only [Option.some.injEq, Prod.mk.injEq, reduceCtorEq] at h
  rename_i hb
  obtain ⟨h0, hby, h63, hzl⟩ := hb
  obtain ⟨rfl, rfl⟩ := h
  have hv1 := (ev_rep hR hG hl).int hn
  have hv2 := (ev_rep hR hG hc).int hn
  simp only [sizeB, Option.map_eq_some_iff, Prod.mk.injEq] at hs
  obtain ⟨ie, hie, hsz, hbb⟩ := hs
  unfold zeroSV at hz
  rw [hie] at hz
  simp only at hz
  split at hz <;> try (simp at hz; done)
  rename_i zv hzv
  obtain ⟨q1, q2⟩ := allSome_spec hz
  have hzs : zv.cells.size = k := by
    have : z.length = zv.cells.size := by simpa using q1
    omega
  obtain ⟨m, rfl⟩ := Int.eq_ofNat_of_zero_le h0
  have hrun := run_make (P := P) w t e ie zv ht hie hzv kd kd (m : Int) (m : Int) (by omega) (Int.le_refl _) (by rw [hbb, Int.mul_comm]; omega) (by omega)
  simp only [Int.toNat_natCast, hsz] at hrun
  have hrep : ∀ (j : Nat) (x : SV), ((List.replicate m z).flatten)[j]? = some x → x.one = true ∧ RepS γ.F x ((madeCells zv.cells (m * k)).getD j undef) := by
    intro j x hx
    obtain ⟨r1, r2⟩ := replicate_get (e := k) hzl m j x hx
    have hjk : j % k < k := Nat.mod_lt _ hk
    have h3 := q2 (j % k) x r2
    have hcell : (madeCells zv.cells (m * k)).getD j undef = zv.cells[j % k]'(by omega) := by
      simp only [Array.getD_eq_getD_getElem?, madeCells]
      simp [r1, hzs, hjk]
    rw [hcell]
    rw [List.getElem?_map] at h3
    simp only [Array.getElem?_toList, Array.getElem?_eq_getElem (show j % k < zv.cells.size by omega), Option.map_some, Option.some.injEq] at h3
    refine ⟨?_, constSV_rep h3⟩
    have : (constSV (zv.cells[j % k]'(by omega))) = some x := h3
    unfold constSV at this
    split at this <;> simp only [Option.some.injEq, reduceCtorEq] at this <;> subst this <;> rfl
  obtain ⟨γ', g1, g2, g3, g4⟩ := hR.push (madeCells zv.cells (m * k)) e ((List.replicate m z).flatten) (by rw [size_madeCells]; simp [hzl]) hrep
  refine ⟨_, _, γ', .inl ?_, g2, g1, .mrow _ _ _ _ _ _ g3 (Nat.le_refl _)⟩
  simp only [execOp, ho, hv1, hv2, Sem.run_bind, hrun, Result.andThen_ok]
  rfl

theorem op_mkC (hR : R P γ a w s) (hG : GlobOK E γ) {t e : TypeId} {k b : Nat} {k1 : IntKind} {c : Operand} {c' : Opd} (ho : ∃ l, o.op = .makeSlice t l c ∧ opd l = some (.c (.int k1 0))) (ht : P.underlying t = some (.slice e)) (hs : sizeB P e = some (k, b)) (hz : (zeroSV P e).isSome = true) (hk : 0 < k) (hc : opd c = some c')
    (h : stepV E cf q o.dst s (.mkC e k b c') = some (av, s1)) : Done P γ a w o av s1 := by
  obtain ⟨l, ho, hl⟩ := ho
  simp only [stepV] at h
  split at h <;> try (simp at h; done)
  rename_i kd n hn
  split at h <;> simp only [Option.some.injEq, Prod.mk.injEq, reduceCtorEq] at h
  rename_i hb
  obtain ⟨h0, hby, h63⟩ := hb
  obtain ⟨rfl, rfl⟩ := h
  have hv1 := (ev_rep hR hG hl).int (av := .sv (.int k1 0)) rfl
  have hv2 := (ev_rep hR hG hc).int hn
  simp only [sizeB, Option.map_eq_some_iff, Prod.mk.injEq] at hs
  obtain ⟨ie, hie, hsz, hbb⟩ := hs
  unfold zeroSV at hz
  rw [hie] at hz
  simp only at hz
  split at hz <;> try (simp at hz; done)
  rename_i zv hzv
  have hke : P.cellsOf e = k := by simp [Program.cellsOf, hie, hsz]
  obtain ⟨m, rfl⟩ := Int.eq_ofNat_of_zero_le h0
  have hmb : ((m * b : Nat) : Int) ≤ 70368744177664 := by simpa using hby
  obtain ⟨w', hrun, hO, hgr⟩ := run_make_own (P := P) w 0 t e ie zv k ht hie hzv hsz k1 kd m (by rw [hbb, Nat.mul_comm]; omega) (by simp only [maxLen]; omega) (Nat.zero_le _)
  obtain ⟨γ', g1, g2, g3⟩ := R.own_new (P := P) (γ := γ) (xs := []) hR hgr.os hgr.tape hgr.output hgr.size (fun b hb => hgr.block b hb (by simp)) (by rw [hke]; exact hO) (by rw [hke]; exact hk) (by simp) (by simp [flat]) (g := w.heap.size) rfl (Nat.le_refl _)
  refine ⟨_, _, γ', .inl ?_, g1.ext, g2, .own _ _ _ _ g3⟩
  simp only [execOp, ho, hv1, hv2, Sem.run_bind, hrun, Result.andThen_ok]
  rfl

/-! ### Calls' targets -/

theorem target_rep {ℓ : Loc} {u : Value} (h : RepA P γ w ℓ av u) {f : Nat} {first cap : List AV} (ht : target av = some (f, first, cap)) :
    ∃ va vb, u = .func (.func f) va vb ∧ va.size = first.length ∧ vb.size = cap.length ∧ (∀ (j : Nat) (x : AV), first[j]? = some x → x.isOwn = false ∧ RepA P γ w .ret x (va.getD j undef)) ∧ ∀ (j : Nat) (x : AV), cap[j]? = some x → x.isOwn = false ∧ RepA P γ w .ret x (vb.getD j undef) := by
  unfold target at ht
  split at ht <;> simp only [Option.some.injEq, Prod.mk.injEq, reduceCtorEq] at ht
  · rename_i f' a' b'
    obtain ⟨rfl, rfl, rfl⟩ := ht
    generalize hav : AV.sv (SV.fn f' a' b') = x at h
    cases h with
    | sv v u h =>
      simp only [AV.sv.injEq] at hav
      subst hav
      cases h with
      | fn _ _ _ va vb ha hb ra rb =>
        refine ⟨va, vb, rfl, by simpa using ha, by simpa using hb, fun j x hx => ?_, fun j x hx => ?_⟩
        · rw [List.getElem?_map] at hx
          obtain ⟨y, hy, rfl⟩ := Option.map_eq_some_iff.1 hx
          exact ⟨rfl, .sv _ _ _ (ra j y hy)⟩
        · rw [List.getElem?_map] at hx
          obtain ⟨y, hy, rfl⟩ := Option.map_eq_some_iff.1 hx
          exact ⟨rfl, .sv _ _ _ (rb j y hy)⟩
    | _ => simp at hav
  · rename_i f' a' b'
    obtain ⟨rfl, rfl, rfl⟩ := ht
    cases h with
    | clo _ _ _ va vb ha hb oa ob ra rb =>
      exact ⟨va, vb, rfl, ha, hb, fun j x hx => ⟨oa j x hx, (ra j x hx).keepN (oa j x hx) (fun _ _ _ h => h) (fun _ _ h => h)⟩, fun j x hx => ⟨ob j x hx, (rb j x hx).keepN (ob j x hx) (fun _ _ _ h => h) (fun _ _ h => h)⟩⟩

end Go.Ev
