/- Appends. -/
/- Texts gone through sign by sign. -/
/- One operation: all kinds. -/
import Derived.Test.YtkpjijiiegdcaaaGreatDoorMac
import Derived.Lib.OthersKept
set_option linter.unusedSimpArgs false
set_option linter.unusedVariables false
namespace Go.Ev
variable {P : Program} {E : Env} {γ : Gh} {a : Act} {w : World} {s : St} {o : Oper} {cf : CallF} {q : Bool} {s1 : St} {av : AV}

/-- What a cell owned is handed on. -/
theorem R.disownCell (hR : R P γ a w s) {i off blk : Nat} {cs : List Cell} {e : Nat} {ys : List SV} (hi : s.bx[i]? = some (.live cs)) (hk : γ.β[i]? = some blk) (hc : cs[off]? = some (.own e ys)) :
    ∃ u, w.cell? ⟨blk, off, none⟩ = some u ∧ R P (γ.mv (.cell i off) .ret) a w { s with bx := s.bx.set i (.live (cs.set off (.sv (.sl ys)))), lz := none } ∧ RepA P (γ.mv (.cell i off) .ret) w .ret (.own e ys) u := by
  have hilt : i < s.bx.length := (List.getElem?_eq_some_iff.1 hi).1
  have hoff : off < cs.length := (List.getElem?_eq_some_iff.1 hc).1
  obtain ⟨arr, t, m, k1, ⟨k2, kf⟩, k3, k4⟩ := hR.bx.box i _ blk hi hk
  have hO : RepO P γ w (.cell i off) e ys (arr.getD off undef) := k3 off _ hc
  refine ⟨arr.getD off undef, ?_, ⟨⟨by simp [Gh.mv, hR.bx.len], ?_, nodup_set hR.bx.nodup hi (by simp), hR.bx.Fw, ?_, hR.bx.sh⟩, hR.sz, fun t' ht => (hR.tm t' ht).mv_other (by simp), by simp, hR.dl, ?_⟩, RepA.mv_same (.own _ _ _ _ hO)⟩
  · rw [cell_of_row w blk off arr t m k1, Array.getD_eq_getD_getElem?, Array.getElem?_eq_getElem (by omega)]
    rfl
  · intro i' b' blk' hi' hk'
    rw [List.getElem?_set] at hi'
    split at hi'
    · rename_i e'
      subst e'
      simp only [hilt, if_true, Option.some.injEq] at hi'
      subst hi'
      have : blk' = blk := by have h := hk'.symm.trans hk; simpa using h
      subst this
      refine ⟨arr, t, m, k1, ⟨by simpa using k2, by simpa using kf⟩, fun j c hc' => ?_, k4⟩
      rw [List.getElem?_set] at hc'
      split at hc'
      · rename_i ej
        subst ej
        simp only [hoff, if_true, Option.some.injEq] at hc'
        subst hc'
        exact ⟨rfl, show RepS γ.F _ _ from hO.rep⟩
      · rename_i ej
        exact (k3 j c hc').keep (fun _ _ _ h => h) (fun g _ hg => ⟨rfl, fun _ _ h => h, Gh.mv_other (by simp; omega) hg⟩) (by intro i b h; exact h)
    · rename_i e'
      exact (hR.bx.box i' b' blk' hi' hk').keep (fun _ _ _ h => h) rfl (fun _ _ h => h) (fun g j hg => ⟨rfl, fun _ _ h => h, Gh.mv_other (by simp; omega) hg⟩) (by intro i b h; exact h)
  · intro b ℓ ho
    simp only [Gh.mv] at ho
    split at ho
    · rename_i e'; exact hR.bx.ow b _ e'
    · exact hR.bx.ow b _ ho
  · intro j d c hd hc'
    exact hR.df j d c hd hc'

theorem R.noLz (hR : R P γ a w s) : R P γ a w { s with lz := none } := ⟨hR.bx, hR.sz, hR.tm, by simp, hR.dl, hR.df⟩

theorem own_lt {t e : Nat} {ys : List SV} (h : s.rd t = .own e ys) : t < s.tm.length := by
  refine Decidable.byContradiction fun hn => ?_
  simp only [St.rd, List.getD_eq_getElem?_getD] at h
  rw [List.getElem?_eq_none (by omega)] at h
  simp at h

theorem nil0_lt {t : Nat} (h : s.rd t = .sv .nil0) : t < s.tm.length := by
  refine Decidable.byContradiction fun hn => ?_
  simp only [St.rd, List.getD_eq_getElem?_getD] at h
  rw [List.getElem?_eq_none (by omega)] at h
  simp at h

theorem nil_lt {t : Nat} (h : s.rd t = .sv .nilS) : t < s.tm.length := by
  refine Decidable.byContradiction fun hn => ?_
  simp only [St.rd, List.getD_eq_getElem?_getD] at h
  rw [List.getElem?_eq_none (by omega)] at h
  simp at h


/-- What an append appends onto. -/
theorem appBase_ok (hR : R P γ a w s) (hG : GlobOK E γ) {x : Operand} {x' : Opd} (hx : opd x = some x') {ys : List SV} {e' : Option Nat} {s' : St}
    (h : appBase E s (srcOf x) x' = some (ys, e', s')) :
    ∃ γ', R P γ' a w s' ∧ Ext γ w γ' w ∧ γ'.F = γ.F ∧ ((e' = none ∧ ys = [] ∧ ∃ p, a.eval x = .slice p 0 0) ∨ ∃ e, e' = some e ∧ RepA P γ' w .ret (.own e ys) (a.eval x)) := by
  have hnil : ∀ {ℓ : Loc} {u : Value}, RepA P γ w ℓ (.sv .nilS) u → ∃ p, u = .slice p 0 0 := fun h => by have := h.sv_inv; cases this; exact ⟨_, rfl⟩
  have hnil0 : ∀ {ℓ : Loc} {u : Value}, RepA P γ w ℓ (.sv .nil0) u → ∃ p, u = .slice p 0 0 := fun h => by have := h.sv_inv; cases this; exact ⟨_, rfl⟩
  cases x with
  | tmp t =>
    simp only [opd, Option.some.injEq] at hx; subst hx
    simp only [Act.eval]
    unfold appBase srcOf at h
    simp only at h
    split at h
    · rename_i t0 t' ℓ hd hlz
      simp only [Option.some.injEq] at hd; subst hd
      split at h <;> try (simp at h; done)
      rename_i ett
      subst ett
      have hat := hR.lz t ℓ hlz
      split at h <;> try (simp at h; done)
      · rename_i u
        have hat' : a.tmps.getD u undef = a.tmps.getD t undef := hat
        split at h <;> simp only [Option.some.injEq, Prod.mk.injEq, reduceCtorEq] at h <;> obtain ⟨rfl, rfl, rfl⟩ := h
        · rename_i e ys hrd
          obtain ⟨r1, r2⟩ := hR.disown (own_lt hrd)
          rw [hrd, hat'] at r2
          exact ⟨_, r1.noLz, Gh.mv_ext _ _ _ _, rfl, .inr ⟨e, rfl, r2⟩⟩
        · rename_i hrd
          refine ⟨γ, hR.noLz, Ext.refl _ _, rfl, .inl ⟨rfl, rfl, ?_⟩⟩
          have hu := nil_lt hrd
          rw [← hat']
          exact hnil (hrd ▸ hR.tm u hu)
        · rename_i hrd
          refine ⟨γ, hR.noLz, Ext.refl _ _, rfl, .inl ⟨rfl, rfl, ?_⟩⟩
          have hu := nil0_lt hrd
          rw [← hat']
          exact hnil0 (hrd ▸ hR.tm u hu)
      · rename_i i off
        obtain ⟨blk, hb, hc⟩ := hat
        split at h <;> try (simp at h; done)
        rename_i cs hcs
        split at h <;> simp only [Option.some.injEq, Prod.mk.injEq, reduceCtorEq] at h <;> obtain ⟨rfl, rfl, rfl⟩ := h
        · rename_i e ys hcell
          obtain ⟨u, q1, q2, q3⟩ := hR.disownCell hcs hb hcell
          rw [hc] at q1
          rw [Option.some.inj q1]
          exact ⟨_, q2, Gh.mv_ext _ _ _ _, rfl, .inr ⟨e, rfl, q3⟩⟩
        · rename_i hcell
          refine ⟨γ, hR.noLz, Ext.refl _ _, rfl, .inl ⟨rfl, rfl, ?_⟩⟩
          obtain ⟨arr, ty, m, k1, ⟨k2, _⟩, k3, k4⟩ := hR.bx.box i _ blk hcs hb
          have h3 := k3 off _ hcell
          have hlt : off < arr.size := by have := (List.getElem?_eq_some_iff.1 hcell).1; omega
          rw [cell_of_row w blk off arr ty m k1, Array.getElem?_eq_getElem hlt] at hc
          rw [← Option.some.inj hc]
          have h4 := h3.2
          rw [Array.getD_eq_getD_getElem?, Array.getElem?_eq_getElem hlt] at h4
          simp only [Option.getD_some] at h4
          generalize arr[off] = y at h4
          cases h4; exact ⟨_, rfl⟩
        · rename_i hcell
          refine ⟨γ, hR.noLz, Ext.refl _ _, rfl, .inl ⟨rfl, rfl, ?_⟩⟩
          obtain ⟨arr, ty, m, k1, ⟨k2, _⟩, k3, k4⟩ := hR.bx.box i _ blk hcs hb
          have h3 := k3 off _ hcell
          have hlt : off < arr.size := by have := (List.getElem?_eq_some_iff.1 hcell).1; omega
          rw [cell_of_row w blk off arr ty m k1, Array.getElem?_eq_getElem hlt] at hc
          rw [← Option.some.inj hc]
          have h4 := h3.2
          rw [Array.getD_eq_getD_getElem?, Array.getElem?_eq_getElem hlt] at h4
          simp only [Option.getD_some] at h4
          generalize arr[off] = y at h4
          cases h4; exact ⟨_, rfl⟩
    · rename_i t0 hd hlz
      simp only [Option.some.injEq] at hd; subst hd
      split at h <;> simp only [Option.some.injEq, Prod.mk.injEq, reduceCtorEq] at h <;> obtain ⟨rfl, rfl, rfl⟩ := h
      · rename_i e ys hrd
        obtain ⟨r1, r2⟩ := hR.disown (own_lt hrd)
        rw [hrd] at r2
        exact ⟨_, r1, Gh.mv_ext _ _ _ _, rfl, .inr ⟨e, rfl, r2⟩⟩
      · rename_i hrd
        refine ⟨γ, hR, Ext.refl _ _, rfl, .inl ⟨rfl, rfl, ?_⟩⟩
        have hu := nil_lt hrd
        exact hnil (hrd ▸ hR.tm t hu)
      · rename_i hrd
        refine ⟨γ, hR, Ext.refl _ _, rfl, .inl ⟨rfl, rfl, ?_⟩⟩
        have hu := nil0_lt hrd
        exact hnil0 (hrd ▸ hR.tm t hu)
    · simp at *
  | _ =>
    unfold appBase srcOf at h
    simp only at h
    split at h <;> try (simp at h; done)
    · rename_i hxe
      simp only [Option.some.injEq, Prod.mk.injEq] at h
      obtain ⟨rfl, rfl, rfl⟩ := h
      exact ⟨γ, hR, Ext.refl _ _, rfl, .inl ⟨rfl, rfl, hnil (hxe ▸ ev_rep hR hG hx)⟩⟩
    · rename_i hxe
      simp only [Option.some.injEq, Prod.mk.injEq] at h
      obtain ⟨rfl, rfl, rfl⟩ := h
      exact ⟨γ, hR, Ext.refl _ _, rfl, .inl ⟨rfl, rfl, hnil0 (hxe ▸ ev_rep hR hG hx)⟩⟩

/-- The row of the one that appends grew. -/
theorem R.grow (hR : R P γ a w s) {w' : World} {g0 : Option Nat} (hgr : w.grownBy w' g0) {g : Nat} (hg : g0 = some g ∨ w.heap.size ≤ g) (hown : ∀ k, g0 = some k → γ.ow k = some .ret) {vs : List Value} (hglt : g < w'.heap.size) (hc : ∀ (j : Nat) (v : Value), vs[j]? = some v → w'.cell? ⟨g, j, none⟩ = some v)
    (hold : ∀ k, g0 = some k → ∀ j v, γ.F k j v → w'.cell? ⟨k, j, none⟩ = some v) :
    ∃ γ', R P γ' a w' s ∧ Ext γ w γ' w' ∧ γ'.ow g = some .ret ∧ (∀ (j : Nat) (v : Value), vs[j]? = some v → γ'.F g j v) ∧ (∀ j v, γ'.F g j v → γ.F g j v ∨ vs[j]? = some v) ∧ ∀ b o v, γ.F b o v → γ'.F b o v := by
  let γ' : Gh := { γ with F := fun b o v => γ.F b o v ∨ (b = g ∧ vs[o]? = some v), ow := fun b => if b = g then some .ret else γ.ow b }
  have hFs : ∀ b o v, γ.F b o v → γ'.F b o v := fun b o v h => .inl h
  have hFn : ∀ b, b ≠ g → ∀ o v, γ'.F b o v → γ.F b o v := fun b hb o v h => h.resolve_right (fun h => hb h.1)
  have hgo : ∀ b, b < w.heap.size → γ.ow b ≠ some .ret → b ≠ g := by
    intro b hb hn e
    subst e
    rcases hg with hg | hg
    · exact hn (hown _ hg)
    · omega
  have hblk : ∀ b, b < w.heap.size → γ.ow b ≠ some .ret → w'.heap[b]? = w.heap[b]? := fun b hb hn => hgr.block b hb (fun e => hn (hown b e.symm))
  have hβ : ∀ b, b ∈ γ.β → b < w.heap.size ∧ γ.ow b ≠ some .ret := fun b hb => ⟨hR.bx.β_lt hb, fun e => (hR.bx.ow b _ e).2 hb⟩
  have hk : ∀ b ℓ, ℓ ≠ .ret → γ.ow b = some ℓ → w'.heap[b]? = w.heap[b]? ∧ (∀ j v, γ'.F b j v → γ.F b j v) ∧ γ'.ow b = some ℓ := by
    intro b ℓ hℓ ho
    have h1 := (hR.bx.ow b ℓ ho).1
    have h2 : γ.ow b ≠ some .ret := by rw [ho]; simpa using hℓ
    have h3 := hgo b h1 h2
    exact ⟨hblk b h1 h2, hFn b h3, by show (if b = g then _ else _) = _; rw [if_neg h3]; exact ho⟩
  have hA : ∀ {ℓ : Loc} {av : AV} {u : Value}, ℓ ≠ .ret → RepA P γ w ℓ av u → RepA P γ' w' ℓ av u := fun hℓ h => h.keep hFs (fun _ _ h => h) (fun b _ hb => hk b _ hℓ hb)
  refine ⟨γ', ⟨⟨hR.bx.len, ?_, hR.bx.nodup, ?_, ?_, fun b e c hs => ?_⟩, hR.sz, fun t ht => hA (by simp) (hR.tm t ht), ?_, hR.dl, ?_⟩, ?_, by simp [γ'], fun j v h => .inr ⟨rfl, h⟩, fun j v h => h.imp id (fun h => h.2), hFs⟩
  · intro i b blk hi hb
    obtain ⟨q1, q2⟩ := hβ blk (List.mem_of_getElem? hb)
    exact (hR.bx.box i b blk hi hb).keep hFs (hblk blk q1 q2) (hFn blk (hgo blk q1 q2)) (fun g' j hg' => hk g' _ (by simp) hg') (fun _ _ h => h)
  · intro b o v h
    rcases h with h | ⟨rfl, h⟩
    · have hc0 := hR.bx.Fw _ _ _ h
      by_cases e : g0 = some b
      · exact hold b e o v h
      · exact (World.cell?_of_block (w := w) (hgr.block b (lt_of_cell hc0) (fun h => e h.symm))).trans hc0
    · exact hc o v h
  · intro b ℓ ho
    simp only [γ'] at ho
    split at ho
    · rename_i e
      subst e
      refine ⟨hglt, fun hm => ?_⟩
      obtain ⟨q1, q2⟩ := hβ b hm
      exact hgo b q1 q2 rfl
    · obtain ⟨q1, q2⟩ := hR.bx.ow b ℓ ho
      exact ⟨Nat.lt_of_lt_of_le q1 hgr.size, q2⟩
  · obtain ⟨p1, cur, p2, p3⟩ := hR.bx.sh b e c hs
    obtain ⟨q1, q2⟩ := hβ b p1
    exact ⟨p1, cur, (hblk b q1 q2).trans p2, p3⟩
  · intro d ℓ hd
    have := hR.lz d ℓ hd
    cases ℓ with
    | tmp t => exact this
    | cell i off =>
      obtain ⟨b, hb, hcc⟩ := this
      obtain ⟨q1, q2⟩ := hβ b (List.mem_of_getElem? hb)
      exact ⟨b, hb, (World.cell?_of_block (w := w) (hblk b q1 q2)).trans hcc⟩
    | ret => trivial
  · intro i d c hd hc'
    exact hR.df i d c hd hc'
  · refine ⟨hgr.os, hgr.tape, hgr.output, hgr.size, hFs, ⟨[], by simp [γ'], by simp⟩, fun b hb => hblk b hb.1 (by rw [hb.2.2]; simp), fun b o v hb h => hFn b (hgo b hb.1 (by rw [hb.2.2]; simp)) o v h, fun b hb => ?_, fun _ _ h => h⟩
    show (if b = g then _ else _) = _
    rw [if_neg (hgo b hb.1 (by rw [hb.2.2]; simp))]
    exact hb.2.2

theorem run_append_none (t ty e : TypeId) (i : TypeInfo) (ht : P.underlying t = some (.slice e)) (hi : P.info? e = some i) (base : Option Addr) (n cap : Nat) (hn : n ≤ cap) (p : Option Addr) (c : Nat) :
    (Builtin.append_ #[t, t] ty #[.slice base n cap, .slice p 0 c]).run P w = .ok (.slice base n cap) w := by
  cases p <;> cases base <;> simp [Builtin.append_, run_underlying ht, sizeOf, typeInfo, hi, Builtin.lenOf, Builtin.firstCells, loadCells, loadCellsFrom, storeCells, hn]

/-- An append onto an empty slice that has no room is one onto the nil slice. -/
theorem run_append_nil_any (w : World) (t ty e : TypeId) (i : TypeInfo) (z : Value) (ht : P.underlying t = some (.slice e)) (hi : P.info? e = some i) (hz : i.zero = some z) (q : Option Addr)
    (a : Addr) (n c : Nat) (news : List Value) (hl : news.length = n * i.size) (hnews : ∀ j v, news[j]? = some v → w.cell? (a.add j) = some v)
    (h0 : 0 < n) (h63 : (n : Int) ≤ 9223372036854775807) (h48 : n * i.bytes ≤ 281474976710656) :
    (Builtin.append_ #[t, t] ty #[.slice q 0 0, .slice (some a) n c]).run P w = (Builtin.append_ #[t, t] ty #[.slice none 0 0, .slice (some a) n c]).run P w := by
  cases q with
  | none => rfl
  | some b =>
    rw [run_append_nil (P := P) w t ty e i z ht hi hz a n c news hl hnews h0 h63 h48]
    have h := run_append_grow (P := P) w t ty e i z ht hi hz b 0 0 [] (by simp) (by simp) a n c news hl hnews (by omega) (by simpa using h63) (by rw [Nat.zero_add, nextslicecap_zero h0]; exact h48)
    rw [h]
    simp

theorem op_app0 (hR : R P γ a w s) (hG : GlobOK E γ) {t e : TypeId} {k b : Nat} {x y : Operand} {x' y' : Opd} (ho : o.op = .call { callee := .builtin .append, args := #[x, y], argTypes := #[t, t] }) (ht : P.underlying t = some (.slice e)) (hs : sizeB P e = some (k, b)) (hz : zeroOK P e = true)
    (hx : opd x = some x') (hy : opd y = some y') (h : doApp E s e k b (srcOf x) x' y' = some (av, s1)) : Done P γ a w o av s1 := by
  unfold doApp at h
  split at h <;> try (simp at h; done)
  rename_i new hnew
  split at h <;> try (simp at h; done)
  rename_i ys e' s' hbase
  split at h <;> try (simp at h; done)
  rename_i hcond
  obtain ⟨hby, h63, hee, hk0, huni⟩ := hcond
  have hyr := (ev_rep hR hG hy).elems hnew
  obtain ⟨γ1, r1, r2, r3, r4⟩ := appBase_ok hR hG hx hbase
  rw [← r3] at hyr
  simp only [sizeB, Option.map_eq_some_iff, Prod.mk.injEq] at hs
  obtain ⟨ie, hie, hsz, hbb⟩ := hs
  unfold zeroOK at hz
  rw [hie] at hz
  simp only at hz
  split at hz <;> try (simp at hz; done)
  rename_i zv hzv
  have hzs : zv.cells.size = k := by rw [← hsz]; simpa using hz
  have hke : P.cellsOf e = k := by simp [Program.cellsOf, hie, hsz]
  have hexec : ∀ {r : Value} {w' : World}, (Builtin.append_ #[t, t] o.type #[a.eval x, a.eval y]).run P w = .ok r w' → (execOp a.eval o).run P w = .ok (.value r) w' := by
    intro r w' hr
    unfold execOp
    simp only [ho, resolve, invoke, builtin, Sem.run_bind, Sem.run_pure, Result.andThen_ok, List.map_toArray, List.map_cons, List.map_nil, hr]
  rcases hyr.sl_inv with ⟨hnil, p, c, hu⟩ | ⟨bl, off, c, k', vs, hu, hk', hne, hcap, hlk, hF, hone, hr⟩
  · subst hnil
    rcases r4 with ⟨rfl, rfl, hxv⟩ | ⟨e1, rfl, r4⟩
    · simp only [Option.some.injEq, Prod.mk.injEq] at h
      obtain ⟨rfl, rfl⟩ := h
      obtain ⟨q, hxv⟩ := hxv
      refine ⟨_, w, γ1, .inl (hexec ?_), r2, r1, .sv _ _ _ (.nil0 q)⟩
      rw [hxv, hu]
      exact run_append_none t o.type e ie ht hie q 0 0 (Nat.le_refl _) p c
    · simp only [reduceCtorEq, false_or, Option.some.injEq] at hee
      subst hee
      simp only [Option.some.injEq, Prod.mk.injEq, List.append_nil] at h
      obtain ⟨rfl, rfl⟩ := h
      refine ⟨a.eval x, w, γ1, .inl (hexec ?_), r2, r1, r4⟩
      rw [hu]
      cases r4 with
      | own _ _ _ hO =>
        obtain ⟨us, g, ⟨_, hor⟩, _, _, _, hob, _⟩ := hO
        rcases hor with ⟨hvn, _⟩ | ⟨g', cap, cur, hve, _, _, hnc, _⟩
        · rw [hvn] at hob; simp [Value.ownBlock] at hob
        · rw [hve]; exact run_append_none t o.type e1 ie ht hie _ _ _ hnc p c
  · have hres : av = .own e (ys ++ new) ∧ s1 = s' := by
      cases e' <;> cases new <;> simp_all
    obtain ⟨rfl, rfl⟩ := hres
    have hkk : k' = k := by
      cases new with
      | nil => exact absurd rfl hne
      | cons y0 _ => exact (hlk y0 (by simp)).symm.trans (uni_spec huni y0 (by simp))
    subst hkk
    let news : List Value := (List.range (new.length * k')).map vs
    have hnl : news.length = new.length * k' := by simp [news]
    have hng : ∀ (j : Nat) (u : Value), news[j]? = some u → j < new.length * k' ∧ vs j = u := by
      intro j u hj
      have hjl : j < new.length * k' := by rw [← hnl]; exact (List.getElem?_eq_some_iff.1 hj).1
      simp only [news, List.getElem?_map, List.getElem?_range hjl, Option.map_some, Option.some.injEq] at hj
      exact ⟨hjl, hj⟩
    have hfll := flat_length hlk
    have h1 : ∀ u ∈ news, u.oneCell' = true := by
      intro u hu'
      obtain ⟨j, hj⟩ := List.getElem?_of_mem hu'
      obtain ⟨hjl, rfl⟩ := hng j u hj
      have hfx : (flat new)[j]? = some ((flat new)[j]'(by omega)) := by simp [hfll, hjl]
      exact (hr j _ hfx).oneCell (hone j _ hfx)
    have hnews : ∀ j u, news[j]? = some u → w.cell? ((⟨bl, off, none⟩ : Addr).add j) = some u := by
      intro j u hj
      obtain ⟨hjl, rfl⟩ := hng j u hj
      rw [add_none]
      exact r1.bx.Fw _ _ _ (hF j hjl)
    have hbaseO : ∃ v0 us, (Builtin.append_ #[t, t] o.type #[a.eval x, .slice (some ⟨bl, off, none⟩) new.length c]).run P w = (Builtin.append_ #[t, t] o.type #[v0, .slice (some ⟨bl, off, none⟩) new.length c]).run P w ∧ w.ownsRow 0 e k' v0 ys.length us ∧ (∀ x ∈ ys, x.cells.length = k') ∧ (∀ (j : Nat) (x : SV), (flat ys)[j]? = some x → x.one = true ∧ ∃ v, us[j]? = some v ∧ RepS γ1.F x v) ∧
        (∀ g, v0.ownBlock = some g → γ1.ow g = some .ret ∧ (∀ (j : Nat) (v : Value), us[j]? = some v → γ1.F g j v) ∧ ∀ j v, γ1.F g j v → j < us.length) := by
      rcases r4 with ⟨_, rfl, hxv⟩ | ⟨e1, rfl, r4⟩
      · obtain ⟨q, hxv⟩ := hxv
        rw [hxv]
        have hnn : 0 < new.length := by
          cases new with
          | nil => exact absurd rfl hne
          | cons => simp
        refine ⟨.slice none 0 0, [], ?_, World.ownsRow_nil w 0 e k', by simp, by simp [flat], by simp [Value.ownBlock]⟩
        exact run_append_nil_any w t o.type e ie zv ht hie hzv q ⟨bl, off, none⟩ new.length c news (by rw [hnl, hsz]) hnews hnn (by simp only [List.length_nil, Nat.zero_add] at h63 hby; omega) (by rw [hbb]; simp only [List.length_nil, Nat.zero_add] at hby; omega)
      · simp only [reduceCtorEq, false_or, Option.some.injEq] at hee
        subst hee
        cases r4 with
        | own _ _ _ hO =>
          obtain ⟨us, g, q1, q2, q3, q4, q5, q6, q7, q8⟩ := hO
          rw [hke] at q1 q3
          refine ⟨a.eval x, us, rfl, q1, q3, q4, fun g' hg' => ?_⟩
          rw [q5] at hg'
          obtain rfl := Option.some.inj hg'
          exact ⟨q6, q7, q8⟩
    obtain ⟨v0, us, heq0, hO, hyl, hyr', hown⟩ := hbaseO
    obtain ⟨v', w', hrun, hO', hgr, hnil', hat⟩ := run_append_own_at (P := P) w 0 t o.type e ie zv k' b ht hie hzv hsz hbb hzs hk' v0 ys.length us hO ⟨bl, off, none⟩ new.length c news hnl hnews h1 (by simp only [maxLen]; omega) hby (Nat.zero_le _)
    have hv'n : v' ≠ .slice none 0 0 := fun e => by
      have := (hnil'.1 e).2
      exact hne (List.eq_nil_of_length_eq_zero this)
    obtain ⟨g, hg⟩ : ∃ g, v'.ownBlock = some g := by
      rcases hO'.2 with ⟨hv, _⟩ | ⟨g, _, _, hv, _⟩
      · exact absurd hv hv'n
      · exact ⟨g, by rw [hv]; rfl⟩
    have hgl := (hO'.lt g hg).2
    have hcells : ∀ (j : Nat) (v : Value), (us ++ news)[j]? = some v → w'.cell? ⟨g, j, none⟩ = some v := fun j v hv => by
      have := hO'.cells hg j v hv
      rw [add_none, Nat.zero_add] at this
      exact this
    have husF : ∀ g', v0.ownBlock = some g' → ∀ j v, γ1.F g' j v → us[j]? = some v := by
      intro g' hg' j v hv
      obtain ⟨_, p2, p3⟩ := hown g' hg'
      have hl := p3 j v hv
      have h4 := r1.bx.Fw _ _ _ (p2 j us[j] (by simp [hl]))
      have h5 := r1.bx.Fw _ _ _ hv
      rw [h4] at h5
      rw [← Option.some.inj h5]
      simp [hl]
    have hold : ∀ g', v0.ownBlock = some g' → ∀ j v, γ1.F g' j v → w'.cell? ⟨g', j, none⟩ = some v := by
      intro g' hg' j v hv
      by_cases eg : g' = g
      · subst eg
        have := husF g' hg' j v hv
        exact hcells j v (by rw [List.getElem?_append_left (List.getElem?_eq_some_iff.1 this).1]; exact this)
      · -- the row was left behind: its old block is as it was, or was written at its end
        rcases hO.2 with ⟨hvn, _⟩ | ⟨g2, cap2, cur2, hve, _, hh2, hnc2, hcm2, hcs2, htk2⟩
        · rw [hvn] at hg'; simp [Value.ownBlock] at hg'
        · have hg2 : g2 = g' := by rw [hve] at hg'; simpa [Value.ownBlock] using hg'
          subst hg2
          by_cases hroom : ys.length + new.length ≤ cap2
          · have hr2 := run_append_room (P := P) w t o.type e ie ht hie g2 ys.length cap2 cur2 hh2 ⟨bl, off, none⟩ new.length c news (by rw [hnl, hsz]) hnews h1 hroom (by rw [hnl, hcs2, hsz, ← Nat.add_mul]; exact Nat.mul_le_mul_right _ hroom)
            rw [← hve, hrun] at hr2
            simp only [Result.ok.injEq] at hr2
            rw [hr2.1] at hg
            simp only [Value.ownBlock, Option.some.injEq] at hg
            exact absurd hg eg
          · have hr2 := run_append_grow (P := P) w t o.type e ie zv ht hie hzv ⟨g2, 0, none⟩ ys.length cap2 us (by rw [hsz]; exact hO.1) (hO.cells (g := g2) (by rw [hve]; rfl)) ⟨bl, off, none⟩ new.length c news (by rw [hnl, hsz]) hnews (by omega) (by omega) (by rw [hbb]; exact growslice_fits (by omega) hby)
            rw [← hve, hrun] at hr2
            simp only [Result.ok.injEq] at hr2
            rw [hr2.2]
            have hc0 := r1.bx.Fw _ _ _ hv
            have hb2 : ∀ (oo : Obj), (w.drew.alloc oo).heap[g2]? = w.heap[g2]? := fun oo => heap_alloc_old w.drew oo g2 (lt_of_cell hc0)
            exact (World.cell?_of_block (w := w) (hb2 _)).trans hc0
    obtain ⟨γ2, s1', s2', s3', s4', s5', s6'⟩ := R.grow (P := P) r1 (w' := w') (g0 := v0.ownBlock) hgr (g := g) (by
      rcases hat with h6 | h6
      · left; rw [← h6, hg]
      · right; rw [hg] at h6; rw [Option.some.inj h6]; exact Nat.le_refl _) (fun k hk => (hown k hk).1) (vs := us ++ news) hgl hcells hold
    refine ⟨v', w', γ2, .inl (hexec (by rw [hu, heq0]; exact hrun)), r2.trans s2', s1', .own _ _ _ _ ⟨us ++ news, g, ?_, by rw [hke]; exact hk0, ?_, ?_, hg, s3', s4', fun j v hv => ?_⟩⟩
    · rw [hke, List.length_append]; exact hO'
    · rw [hke]
      intro z hz
      rcases List.mem_append.1 hz with hz | hz
      · exact hyl z hz
      · exact hlk z hz
    · intro j z hz
      rw [flat_append] at hz
      have hfy : (flat ys).length = us.length := by rw [flat_length hyl, hO.1]
      by_cases hj : j < (flat ys).length
      · rw [List.getElem?_append_left hj] at hz
        obtain ⟨p1, v, p2, p3⟩ := hyr' j z hz
        exact ⟨p1, v, by rw [List.getElem?_append_left (by rw [← hfy]; exact hj)]; exact p2, p3.mono s6'⟩
      · rw [List.getElem?_append_right (by omega)] at hz
        have hjl := (List.getElem?_eq_some_iff.1 hz).1
        refine ⟨hone _ z hz, vs (j - (flat ys).length), ?_, (hr _ z hz).mono s6'⟩
        rw [List.getElem?_append_right (by omega), ← hfy]
        simp only [news, List.getElem?_map]
        rw [List.getElem?_range (by omega)]
        rfl
    · rcases s5' j v hv with h7 | h7
      · rcases hat with h6 | h6
        · have := husF g (by rw [← h6, hg]) j v h7
          have := (List.getElem?_eq_some_iff.1 this).1
          rw [List.length_append]; omega
        · rw [hg] at h6
          have := lt_of_cell (r1.bx.Fw _ _ _ h7)
          have := Option.some.inj h6
          omega
      · exact (List.getElem?_eq_some_iff.1 h7).1

/-! ### Appends onto what may be written -/

theorem plain_rep {i j : Nat} {c : Cell} {u : Value} (h : RepC P γ w i j c u) : c.plain.one = true ∧ RepS γ.F c.plain u := by
  cases c with
  | sv v => exact ⟨SV.can0_one h.1, h.2.can0⟩
  | own e xs => exact ⟨rfl, RepO.rep h⟩
  | lnk k o =>
    obtain ⟨b, _, e⟩ := h
    refine ⟨rfl, ?_⟩
    show RepS γ.F (.ref []) u
    rw [e]
    exact .ref [] b o (fun _ => undef) (by simp) (by simp) (by simp)
  | lrw k n e =>
    obtain ⟨b, c, _, _, e⟩ := h
    refine ⟨rfl, ?_⟩
    show RepS γ.F .unk u
    rw [e]
    exact .unk _ rfl rfl

theorem fresh_drew (hb : BoxesOK P γ w s.bx) (o : Obj) : Fresh γ w γ (w.drew.alloc o) where
  os := rfl
  tape := rfl
  output := rfl
  size := by simp
  blk := fun b hb => heap_alloc_old w.drew o b hb
  F := fun _ _ _ h => h
  Fold := fun _ _ _ _ h => h
  Fw := fun b o' v h => (World.cell?_of_block (w := w) (a := ⟨b, o', none⟩) (heap_alloc_old w.drew o b (lt_of_cell (hb.Fw _ _ _ h)))).trans (hb.Fw _ _ _ h)
  β := rfl
  sh := rfl
  ow := fun _ _ => rfl
  new := fun b ℓ hl ho => by have := (hb.ow b ℓ ho).1; omega

/-- A box that is looked at no more. -/
theorem R.dead (hR : R P γ a w s) {i : Nat} {b : Box} (hi : s.bx[i]? = some b) : R P γ a w { s with bx := s.bx.set i (.frz []), lz := none } := by
  have hilt : i < s.bx.length := (List.getElem?_eq_some_iff.1 hi).1
  refine ⟨⟨by simp [hR.bx.len], ?_, nodup_set hR.bx.nodup hi (fun _ => rfl), hR.bx.Fw, hR.bx.ow, hR.bx.sh⟩, hR.sz, hR.tm, by simp, hR.dl, hR.df⟩
  intro i' b' blk' hi' hk'
  rw [List.getElem?_set] at hi'
  split at hi'
  · rename_i e
    subst e
    simp only [hilt, if_true, Option.some.injEq] at hi'
    subst hi'
    exact dead_rep (hR.bx.box i b blk' hi hk').blk
  · exact hR.bx.box i' b' blk' hi' hk'

/-- A block all of whose boxes are dead may change. -/
theorem R.setDead (hR : R P γ a w s) (hlz : s.lz = none) {blk : Nat} (hβ : blk ∈ γ.β) (hd : ∀ j : Nat, γ.β[j]? = some blk → s.bx[j]? = some (.frz [])) (hnF : ∀ o v, ¬ γ.F blk o v)
    {cur cur' : Array Value} {t : TypeId} {m : Nat × Nat} (hh : w.heap[blk]? = some (.cells cur t m)) (hsz : cur'.size = cur.size) :
    R P γ a (w.setRow blk cur') s ∧ Ext γ w γ (w.setRow blk cur') := by
  have hog : ∀ g ℓ, γ.ow g = some ℓ → g ≠ blk := fun g ℓ h e => (hR.bx.ow g ℓ h).2 (e ▸ hβ)
  have hk1 : ∀ g ℓ, γ.ow g = some ℓ → (w.setRow blk cur').heap[g]? = w.heap[g]? ∧ (∀ j v, γ.F g j v → γ.F g j v) ∧ γ.ow g = some ℓ := fun g ℓ h => ⟨setRow_other w blk g cur' (hog g ℓ h), fun _ _ h => h, h⟩
  refine ⟨⟨⟨hR.bx.len, ?_, hR.bx.nodup, ?_, fun b ℓ hb => ?_, fun b e c hsh => ?_⟩, hR.sz, fun t' ht => (hR.tm t' ht).keep (fun _ _ _ h => h) (fun _ _ h => h) (fun g _ hg => hk1 g _ hg), by simp [hlz], hR.dl, hR.df⟩, ?_⟩
  · intro i b blk' hi hk
    by_cases e : blk' = blk
    · subst e
      have := hd i hk
      rw [hi] at this
      obtain rfl := Option.some.inj this
      exact dead_rep (by simpa using heap_lt hh)
    · exact (hR.bx.box i b blk' hi hk).keep (fun _ _ _ h => h) (setRow_other w blk blk' cur' e) (fun _ _ h => h) (fun g j hg => hk1 g _ hg) (fun _ _ h => h)
  · intro b' o' v hF
    rw [cell_setRow_other w blk cur' _ (fun e : b' = blk => hnF o' v (e ▸ hF))]
    exact hR.bx.Fw _ _ _ hF
  · obtain ⟨k1, k2⟩ := hR.bx.ow b ℓ hb
    exact ⟨by simpa using k1, k2⟩
  · obtain ⟨q1, c0, q2, q3, q4⟩ := hR.bx.sh b e c hsh
    refine ⟨q1, ?_⟩
    by_cases eb : b = blk
    · subst eb
      rw [hh] at q2
      simp only [Option.some.injEq, Obj.cells.injEq] at q2
      obtain ⟨rfl, rfl, rfl⟩ := q2
      exact ⟨cur', setRow_heap w b _ cur' _ _ hh, by rw [hsz]; exact q3, q4⟩
    · exact ⟨c0, (setRow_other w blk b cur' eb).trans q2, q3, q4⟩
  · exact ⟨rfl, rfl, rfl, by simp, fun _ _ _ h => h, ⟨[], by simp, by simp⟩, fun b hb => setRow_other w blk b cur' (fun e => hb.2.1 (e ▸ hβ)), fun _ _ _ _ h => h, fun b hb => hb.2.2, fun _ _ h => h⟩

/-- A block's shape is told. -/
theorem R.setSh (hR : R P γ a w s) {blk e c : Nat} {cur : Array Value} (hb : blk ∈ γ.β) (h0 : γ.sh blk = none) (hh : w.heap[blk]? = some (.cells cur e (0, 0))) (hsz : cur.size = c * P.cellsOf e) (hm : c ≤ maxLen) :
    R P { γ with sh := fun b => if b = blk then some (e, c) else γ.sh b } a w s ∧ ∀ b x, γ.sh b = some x → (if b = blk then some (e, c) else γ.sh b) = some x := by
  have hs : ∀ b x, γ.sh b = some x → (if b = blk then some (e, c) else γ.sh b) = some x := by
    intro b x h
    rw [if_neg (fun e => by subst e; rw [h0] at h; simp at h)]
    exact h
  refine ⟨⟨⟨hR.bx.len, fun i b blk' hi hk => (hR.bx.box i b blk' hi hk).keep (fun _ _ _ h => h) rfl (fun _ _ h => h) (fun g j hg => ⟨rfl, fun _ _ h => h, hg⟩) (fun _ _ h => h), hR.bx.nodup, hR.bx.Fw, hR.bx.ow, fun b e' c' h => ?_⟩, hR.sz, fun t ht => (hR.tm t ht).keep (fun _ _ _ h => h) (fun _ _ h => h) (fun g _ hg => ⟨rfl, fun _ _ h => h, hg⟩) hs, fun d ℓ h => ?_, hR.dl, hR.df⟩, hs⟩
  · simp only at h
    split at h
    · rename_i e1
      subst e1
      simp only [Option.some.injEq, Prod.mk.injEq] at h
      obtain ⟨rfl, rfl⟩ := h
      exact ⟨hb, cur, hh, hsz, hm⟩
    · exact hR.bx.sh b e' c' h
  · have := hR.lz d ℓ h
    cases ℓ <;> exact this

/-- A new row that may grow. -/
theorem R.addRow (hR : R P γ a w s) {blk e c : Nat} {cur : Array Value} (hh : w.heap[blk]? = some (.cells cur e (0, 0))) (hn : ∀ j : Nat, γ.β[j]? = some blk → s.bx[j]? = some (.frz [])) (ho : γ.ow blk = none) (hF : ∀ o v, ¬ γ.F blk o v)
    (h0 : γ.sh blk = none ∨ γ.sh blk = some (e, c)) (hsz : cur.size = c * P.cellsOf e) (hm : c ≤ maxLen) (cs : List SV) (hl : cs.length ≤ cur.size) (hr : ∀ (j : Nat) (x : SV), cs[j]? = some x → x.one = true ∧ RepS γ.F x (cur.getD j undef)) (w0 : World) (hw0 : w0.heap.size ≤ blk ∨ blk ∈ γ.β) (he : Ext γ w0 γ w) :
    ∃ γ', R P γ' a w { s with bx := s.bx ++ [.live (cs.map .sv)] } ∧ Ext γ w0 γ' w ∧ γ'.β[s.bx.length]? = some blk ∧ γ'.sh blk = some (e, c) := by
  have h1 := hR.addBox hh hn ho hF cs hl (free00 _) hr
  have hβ : (γ.β ++ [blk])[s.bx.length]? = some blk := by
    rw [List.getElem?_append_right (by rw [hR.bx.len]; omega), hR.bx.len]; simp
  rcases h0 with h0 | h0
  · obtain ⟨h2, h3⟩ := h1.setSh (blk := blk) (e := e) (c := c) (cur := cur) (by simp) h0 hh hsz hm
    refine ⟨_, h2, ⟨he.os, he.tape, he.output, he.size, he.F, ⟨[blk], rfl, by simpa using hw0⟩, he.blk, he.Fnew, he.own, h3⟩, hβ, by simp⟩
  · exact ⟨_, h1, ⟨he.os, he.tape, he.output, he.size, he.F, ⟨[blk], rfl, by simpa using hw0⟩, he.blk, he.Fnew, he.own, fun _ _ h => h⟩, hβ, h0⟩

theorem op_appM (hR : R P γ a w s) (hG : GlobOK E γ) {t e : TypeId} {k b : Nat} {x y : Operand} {x' y' : Opd} (ho : o.op = .call { callee := .builtin .append, args := #[x, y], argTypes := #[t, t] }) (ht : P.underlying t = some (.slice e)) (hs : sizeB P e = some (k, b)) (hz : zeroOK P e = true)
    (hx : opd x = some x') (hy : opd y = some y') (h : doAppM E s e k b x' y' = some (av, s1)) : Done P γ a w o av s1 := by
  unfold doAppM at h
  split at h <;> try (simp at h; done)
  rename_i new hnew
  split at h <;> try (simp at h; done)
  rename_i hcond
  obtain ⟨hn0, hk0, huni⟩ := hcond
  have hyr := (ev_rep hR hG hy).elems hnew
  have hxr := ev_rep hR hG hx
  simp only [sizeB, Option.map_eq_some_iff, Prod.mk.injEq] at hs
  obtain ⟨ie, hie, hsz, hbb⟩ := hs
  unfold zeroOK at hz
  rw [hie] at hz
  simp only at hz
  split at hz <;> try (simp at hz; done)
  rename_i zv hzv
  have hzs : zv.cells.size = k := by rw [← hsz]; simpa using hz
  have hke : P.cellsOf e = k := by simp [Program.cellsOf, hie, hsz]
  have hexec : ∀ {r : Value} {w' : World}, (Builtin.append_ #[t, t] o.type #[a.eval x, a.eval y]).run P w = .ok r w' → (execOp a.eval o).run P w = .ok (.value r) w' := by
    intro r w' hr
    unfold execOp
    simp only [ho, resolve, invoke, builtin, Sem.run_bind, Sem.run_pure, Result.andThen_ok, List.map_toArray, List.map_cons, List.map_nil, hr]
  rcases hyr.sl_inv with ⟨hnil, _⟩ | ⟨bl, off, c, k', vs, hu, hk', hne, hcap, hlk, hF, hone, hr⟩
  · subst hnil; simp at hn0
  have hkk : k' = k := by
    cases new with
    | nil => exact absurd rfl hne
    | cons y0 _ => exact (hlk y0 (by simp)).symm.trans (uni_spec huni y0 (by simp))
  subst hkk
  have hfe : new.flatMap SV.cells = flat new := rfl
  rw [hfe] at h
  let news : List Value := (List.range (new.length * k')).map vs
  have hnl : news.length = new.length * k' := by simp [news]
  have hng : ∀ (j : Nat) (u : Value), news[j]? = some u → j < new.length * k' ∧ vs j = u := by
    intro j u hj
    have hjl : j < new.length * k' := by rw [← hnl]; exact (List.getElem?_eq_some_iff.1 hj).1
    simp only [news, List.getElem?_map, List.getElem?_range hjl, Option.map_some, Option.some.injEq] at hj
    exact ⟨hjl, hj⟩
  have hgn : ∀ j, j < new.length * k' → news.getD j undef = vs j := by
    intro j hj
    simp only [List.getD_eq_getElem?_getD, news, List.getElem?_map, List.getElem?_range hj, Option.map_some, Option.getD_some]
  have hfll := flat_length hlk
  have h1 : ∀ u ∈ news, u.oneCell' = true := by
    intro u hu'
    obtain ⟨j, hj⟩ := List.getElem?_of_mem hu'
    obtain ⟨hjl, rfl⟩ := hng j u hj
    have hfx : (flat new)[j]? = some ((flat new)[j]'(by omega)) := by simp [hfll, hjl]
    exact (hr j _ hfx).oneCell (hone j _ hfx)
  have hnews : ∀ j u, news[j]? = some u → w.cell? ((⟨bl, off, none⟩ : Addr).add j) = some u := by
    intro j u hj
    obtain ⟨hjl, rfl⟩ := hng j u hj
    rw [add_none]
    exact hR.bx.Fw _ _ _ (hF j hjl)
  have hnF : ∀ o v, ¬ γ.F w.heap.size o v := fun o v h => by have := lt_of_cell (hR.bx.Fw _ _ _ h); omega
  have hnβ : ∀ j : Nat, γ.β[j]? ≠ some w.heap.size := fun j h => by have := hR.bx.β_lt (List.mem_of_getElem? h); omega
  have hno : γ.ow w.heap.size = none := by
    cases h : γ.ow w.heap.size with
    | none => rfl
    | some ℓ => have := (hR.bx.ow _ _ h).1; omega
  have hns : γ.sh w.heap.size = none := by
    cases h : γ.sh w.heap.size with
    | none => rfl
    | some x =>
      obtain ⟨q1, _⟩ := hR.bx.sh _ x.1 x.2 h
      have := hR.bx.β_lt q1; omega
  rw [hu] at hexec
  have hnilc : ∀ p, a.eval x = .slice p 0 0 → new.length * b ≤ 140737488355328 ∧ new.length ≤ 140737488355328 → Done P γ a w o (.grw s.bx.length new.length k' e) { s with bx := s.bx ++ [.live ((flat new).map .sv)], lz := none } := by
    intro p hp hb2
    have hb3 : new.length * ie.bytes ≤ 281474976710656 := by rw [hbb]; omega
    have hrun := run_append_nil (P := P) w t o.type e ie zv ht hie hzv ⟨bl, off, none⟩ new.length c news (by rw [hnl, hsz]) hnews hn0 (by omega) hb3
    have hrun0 := run_append_nil_any (P := P) w t o.type e ie zv ht hie hzv p ⟨bl, off, none⟩ new.length c news (by rw [hnl, hsz]) hnews hn0 (by omega) hb3
    rw [hp, hrun0, hrun] at hexec
    have hge := grownCap_ge w new.length 0 e
    have hcm : grownCap w new.length 0 e ≤ maxLen := grownCap_le_maxLen w new.length 0 e (by simp only [maxLen]; omega)
    generalize hcap2 : grownCap w new.length 0 e = cap at *
    have hfr := fresh_drew (P := P) hR.bx (.cells (news.toArray ++ Builtin.zeroCells zv.cells (cap - new.length)) e)
    have hsize : (news.toArray ++ Builtin.zeroCells zv.cells (cap - new.length)).size = cap * P.cellsOf e := by
      simp only [Array.size_append, List.size_toArray, size_zeroCells, hzs, hnl, hke, ← Nat.add_mul]
      congr 1; omega
    obtain ⟨γ', g1, g2, g3, g4⟩ := (hfr.R hR).noLz.addRow (blk := w.heap.size) (e := e) (c := cap) (cur := news.toArray ++ Builtin.zeroCells zv.cells (cap - new.length)) (heap_alloc_new w.drew _) (fun j hj => absurd hj (hnβ j)) hno hnF (.inl hns) hsize hcm (flat new)
      (by rw [hsize, hfll, hke]; exact Nat.mul_le_mul_right _ hge) (fun j z hz => by
        have hjl : j < new.length * k' := by rw [← hfll]; exact (List.getElem?_eq_some_iff.1 hz).1
        refine ⟨hone j z hz, ?_⟩
        have : (news.toArray ++ Builtin.zeroCells zv.cells (cap - new.length)).getD j undef = vs j := by
          rw [← hgn j hjl]
          simp only [Array.getD_eq_getD_getElem?, List.getD_eq_getElem?_getD]
          rw [Array.getElem?_append_left (by simpa [hnl] using hjl)]
          simp
        rw [this]
        exact hr j z hz) w (.inl (Nat.le_refl _)) hfr.ext
    exact ⟨_, _, γ', .inl (hexec rfl), g2, g1, .grw _ _ _ _ _ _ _ g3 g4 hge hke hk0⟩
  split at h <;> try (simp at h; done)
  · rename_i hxe
    split at h <;> simp only [Option.some.injEq, Prod.mk.injEq, reduceCtorEq] at h
    rename_i hb2
    obtain ⟨rfl, rfl⟩ := h
    rw [hxe] at hxr
    obtain ⟨p, hp⟩ : ∃ p, a.eval x = .slice p 0 0 := by
      have h3 := hxr.sv_inv
      generalize a.eval x = X at h3
      cases h3; exact ⟨_, rfl⟩
    exact hnilc p hp hb2
  · rename_i hxe
    split at h <;> simp only [Option.some.injEq, Prod.mk.injEq, reduceCtorEq] at h
    rename_i hb2
    obtain ⟨rfl, rfl⟩ := h
    rw [hxe] at hxr
    obtain ⟨p, hp⟩ : ∃ p, a.eval x = .slice p 0 0 := by
      have h3 := hxr.sv_inv
      generalize a.eval x = X at h3
      cases h3; exact ⟨_, rfl⟩
    exact hnilc p hp hb2
  · rename_i i n k2 e2 hxe
    split at h <;> try (simp at h; done)
    rename_i hb2
    obtain ⟨hkx, hex, hby, h63⟩ := hb2
    have hkx' := hkx.symm
    have hex' := hex.symm
    subst hkx'
    subst hex'
    split at h <;> try (simp at h; done)
    rename_i cs hcs
    split at h <;> simp only [Option.some.injEq, Prod.mk.injEq, reduceCtorEq] at h
    rename_i hcl
    obtain ⟨rfl, rfl⟩ := h
    rw [hxe] at hxr
    generalize hX : a.eval x = X at hxr
    cases hxr with
    | grw _ _ _ _ blk cap hblk hsh hncap _ _ =>
    rw [hX] at hexec
    have hblkβ : blk ∈ γ.β := List.mem_of_getElem? hblk
    obtain ⟨_, cur, hh, hcsz, hcm⟩ := hR.bx.sh blk _ cap hsh
    obtain ⟨arr, ty, m, k1, ⟨k2, kf⟩, k3, k4⟩ := hR.bx.box i _ blk hcs hblk
    rw [hh] at k1
    simp only [Option.some.injEq, Obj.cells.injEq] at k1
    obtain ⟨rfl, rfl, rfl⟩ := k1
    rw [hke] at hcsz
    have hd := hR.dead hcs
    have hall : ∀ j : Nat, γ.β[j]? = some blk → (s.bx.set i (.frz []))[j]? = some (.frz []) := by
      intro j hj
      have hjl : j < s.bx.length := by have := (List.getElem?_eq_some_iff.1 hj).1; rw [hR.bx.len] at this; exact this
      rw [List.getElem?_set]
      by_cases e1 : i = j
      · rw [if_pos e1, if_pos (by omega)]
      · rw [if_neg e1]
        have h9 : s.bx[j]? = some s.bx[j] := by simp [hjl]
        rw [h9, other_dead hR.bx.nodup hcs (by simp) hblk h9 hj (fun h => e1 h.symm)]
    have hoB : γ.ow blk = none := by
      cases h : γ.ow blk with
      | none => rfl
      | some ℓ => exact absurd hblkβ (hR.bx.ow _ _ h).2
    have hpl : ∀ (j : Nat) (z : SV), (cs.map Cell.plain)[j]? = some z → z.one = true ∧ RepS γ.F z (cur.getD j undef) := by
      intro j z hz
      rw [List.getElem?_map] at hz
      obtain ⟨c0, hc0, rfl⟩ := Option.map_eq_some_iff.1 hz
      exact plain_rep (k3 j c0 hc0)
    have hlen : (cs.map Cell.plain ++ flat new).length = (n + new.length) * k' := by rw [List.length_append, List.length_map, hcl, hfll, Nat.add_mul]
    have hcell : ∀ (A : Array Value), (∀ j, j < n * k' → A.getD j undef = cur.getD j undef) → (∀ j, j < new.length * k' → A.getD (n * k' + j) undef = vs j) →
        ∀ (j : Nat) (z : SV), (cs.map Cell.plain ++ flat new)[j]? = some z → z.one = true ∧ RepS γ.F z (A.getD j undef) := by
      intro A hA1 hA2 j z hz
      by_cases hj : j < n * k'
      · rw [List.getElem?_append_left (by rw [List.length_map, hcl]; exact hj)] at hz
        rw [hA1 j hj]
        exact hpl j z hz
      · rw [List.getElem?_append_right (by rw [List.length_map, hcl]; omega), List.length_map, hcl] at hz
        have hjl : j - n * k' < new.length * k' := by rw [← hfll]; exact (List.getElem?_eq_some_iff.1 hz).1
        have h9 := hA2 (j - n * k') hjl
        rw [show n * k' + (j - n * k') = j by omega] at h9
        rw [h9]
        exact ⟨hone _ z hz, hr _ z hz⟩
    by_cases hroom : n + new.length ≤ cap
    · have hfit : n * ie.size + news.length ≤ cur.size := by rw [hnl, hsz, hcsz, ← Nat.add_mul]; exact Nat.mul_le_mul_right _ hroom
      have hrun := run_append_room (P := P) w t o.type e ie ht hie blk n cap cur hh ⟨bl, off, none⟩ new.length c news (by rw [hnl, hsz]) hnews h1 hroom hfit
      rw [hsz] at hrun hfit
      rw [hrun] at hexec
      have hsize : (cur.toList.take (n * k') ++ news ++ cur.toList.drop (n * k' + news.length)).toArray.size = cur.size := by simp; omega
      obtain ⟨q1, q2⟩ := hd.setDead rfl hblkβ hall k4 hh hsize
      have hget := splice_getD cur.toList news (n * k') (by simpa using hfit)
      obtain ⟨γ', g1, g2, g3, g4⟩ := q1.addRow (blk := blk) (e := e) (c := cap) (setRow_heap w blk cur _ _ _ hh) hall hoB k4 (.inr hsh) (by rw [hsize, hcsz, hke]) hcm (cs.map Cell.plain ++ flat new)
        (by rw [hsize, hcsz, hlen]; exact Nat.mul_le_mul_right _ hroom) (hcell _ (fun j hj => by
          rw [hget j, if_neg (by omega)]
          simp [Array.getD_eq_getD_getElem?, List.getD_eq_getElem?_getD]) (fun j hj => by
          rw [hget (n * k' + j), if_pos (by rw [hnl]; omega), show n * k' + j - n * k' = j by omega]
          exact hgn j hj)) w (.inr hblkβ) q2
      refine ⟨_, _, γ', .inl (hexec rfl), g2, g1, ?_⟩
      have hbl : (s.bx.set i (Box.frz [])).length = s.bx.length := by simp
      simp only [hbl] at g3
      exact .grw _ _ _ _ _ _ _ g3 g4 hroom hke hk0
    · have holds : ∀ j u, (cur.toList.take (n * k'))[j]? = some u → w.cell? ((⟨blk, 0, none⟩ : Addr).add j) = some u := by
        intro j u hj
        rw [add_none, Nat.zero_add, cell_of_row w blk j cur _ _ hh]
        rw [List.getElem?_take] at hj
        split at hj
        · simpa using hj
        · simp at hj
      have hol : (cur.toList.take (n * k')).length = n * k' := by simp; omega
      have hrun := run_append_grow (P := P) w t o.type e ie zv ht hie hzv ⟨blk, 0, none⟩ n cap (cur.toList.take (n * k')) (by rw [hol, hsz]) holds ⟨bl, off, none⟩ new.length c news (by rw [hnl, hsz]) hnews (by omega) (by omega) (growslice_fits (by omega) (by rw [hbb]; exact hby))
      rw [hrun] at hexec
      have hge := grownCap_ge w (n + new.length) cap e
      have hcm2 : grownCap w (n + new.length) cap e ≤ maxLen := grownCap_le_maxLen w (n + new.length) cap e (by simp only [maxLen]; omega)
      generalize grownCap w (n + new.length) cap e = cap2 at *
      have hfr := fresh_drew (P := P) hd.bx (.cells ((cur.toList.take (n * k')).toArray ++ news.toArray ++ Builtin.zeroCells zv.cells (cap2 - (n + new.length))) e)
      have hsize : ((cur.toList.take (n * k')).toArray ++ news.toArray ++ Builtin.zeroCells zv.cells (cap2 - (n + new.length))).size = cap2 * P.cellsOf e := by
        simp only [Array.size_append, List.size_toArray, size_zeroCells, hzs, hnl, hke, hol, ← Nat.add_mul]
        congr 1; omega
      obtain ⟨γ', g1, g2, g3, g4⟩ := (hfr.R hd).addRow (blk := w.heap.size) (e := e) (c := cap2) (cur := (cur.toList.take (n * k')).toArray ++ news.toArray ++ Builtin.zeroCells zv.cells (cap2 - (n + new.length))) (heap_alloc_new w.drew _) (fun j hj => absurd hj (hnβ j)) hno hnF (.inl hns) hsize hcm2 (cs.map Cell.plain ++ flat new)
        (by rw [hsize, hlen, hke]; exact Nat.mul_le_mul_right _ hge) (hcell _ (fun j hj => by
          simp only [Array.getD_eq_getD_getElem?]
          rw [Array.getElem?_append_left (by simp [hnl]; omega), Array.getElem?_append_left (by simp; omega)]
          simp [List.getElem?_take, hj]) (fun j hj => by
          rw [← hgn j hj]
          simp only [Array.getD_eq_getD_getElem?, List.getD_eq_getElem?_getD]
          rw [Array.getElem?_append_left (by simp [hnl]; omega), Array.getElem?_append_right (by simp; omega)]
          simp only [List.size_toArray, hol]
          rw [show n * k' + j - n * k' = j by omega]
          simp)) w (.inl (Nat.le_refl _)) hfr.ext
      refine ⟨_, _, γ', .inl (hexec rfl), g2, g1, ?_⟩
      have hbl : (s.bx.set i (Box.frz [])).length = s.bx.length := by simp
      simp only [hbl] at g3
      exact .grw _ _ _ _ _ _ _ g3 g4 hge hke hk0

theorem R.forget (hR : R P γ a w s) (t : Nat) : R P γ a w (s.forget t) := by
  refine ⟨hR.bx, hR.sz.trans (by simp [St.forget]), fun t' ht => ?_, hR.lz, hR.dl, hR.df⟩
  have ht' : t' < s.tm.length := by simpa [St.forget] using ht
  have := hR.tm t' ht'
  simp only [St.forget, St.rd, List.getD_eq_getElem?_getD, List.getElem?_set] at this ⊢
  by_cases e : t = t'
  · subst e
    rw [if_pos rfl, if_pos ht']
    exact .sv _ _ _ (.undef _)
  · rw [if_neg e]; exact this

/-- What is disowned and then forgotten. -/
theorem forget_disown (s : St) (t : Nat) (h : (s.rd t).isOwn = true) : (s.disown t).forget t = s.forget t := by
  unfold St.disown
  split
  · simp [St.forget]
  · rfl

theorem op_app (hR : R P γ a w s) (hG : GlobOK E γ) {t e : TypeId} {k b : Nat} {x y : Operand} {x' y' : Opd} (ho : o.op = .call { callee := .builtin .append, args := #[x, y], argTypes := #[t, t] }) (ht : P.underlying t = some (.slice e)) (hs : sizeB P e = some (k, b)) (hz : zeroOK P e = true)
    (hx : opd x = some x') (hy : opd y = some y') (h : stepV E cf q o.dst s (.app e k b (srcOf x) x' y') = some (av, s1)) : Done P γ a w o av s1 := by
  simp only [stepV] at h
  split at h
  · unfold doAppQ at h
    split at h <;> try (simp at h; done)
    rename_i t'
    split at h <;> try (simp at h; done)
    rename_i hc
    obtain ⟨hd, hlz, hown⟩ := hc
    split at h <;> simp only [Option.some.injEq, Prod.mk.injEq, reduceCtorEq] at h
    rename_i v s2 happ
    obtain ⟨rfl, rfl⟩ := h
    obtain ⟨v', w', γ', h1, h2, h3, h4⟩ := op_app0 hR hG ho ht hs hz hx hy happ
    refine ⟨v', w', γ', h1, h2, ?_, h4⟩
    have e2 : s2 = s.disown t' := by
      unfold doApp at happ
      split at happ <;> try (simp at happ; done)
      split at happ <;> try (simp at happ; done)
      rename_i ys e' s3 hb
      have hs3 : s3 = s.disown t' := by
        unfold appBase at hb
        rw [hd, hlz] at hb
        simp only at hb
        split at hb <;> simp only [Option.some.injEq, Prod.mk.injEq, reduceCtorEq] at hb
        · exact hb.2.2.symm
        · rename_i hn
          rw [hn] at hown; simp [AV.isOwn] at hown
        · rename_i hn
          rw [hn] at hown; simp [AV.isOwn] at hown
      split at happ <;> try (simp at happ; done)
      split at happ <;> simp only [Option.some.injEq, Prod.mk.injEq] at happ
      · rw [← happ.2]; exact hs3
      · rw [← happ.2]; exact hs3
    rw [← forget_disown s t' hown, ← e2]
    exact h3.forget t'
  · split at h
    · exact op_appM hR hG ho ht hs hz hx hy h
    · exact op_app0 hR hG ho ht hs hz hx hy h

end Go.Ev

set_option linter.unusedSimpArgs false
set_option linter.unusedVariables false
namespace Go.Ev
variable {P : Program} {E : Env} {γ : Gh} {a : Act} {w : World} {s : St} {o : Oper} {cf : CallF} {q : Bool} {s1 : St} {av : AV}

theorem op_rngS (hR : R P γ a w s) (hG : GlobOK E γ) {t : TypeId} {x : Operand} {x' : Opd} (ho : o.op = .range t x) (ht : P.underlying t = some .string) (hx : opd x = some x')
    (h : stepV E cf q o.dst s (.rngS x') = some (av, s1)) : Done P γ a w o av s1 := by
  simp only [stepV] at h
  split at h <;> try (simp at h; done)
  split at h <;> simp only [Option.some.injEq, Prod.mk.injEq, reduceCtorEq] at h
  rename_i l hl
  obtain ⟨rfl, rfl⟩ := h
  have hv := (ev_rep hR hG hx).str hl
  have hrun := run_range_string (P := P) w t ⟨l.toArray⟩ ht
  have hf := fresh_alloc hR.bx (.stringIter ⟨l.toArray⟩ 0)
  have h1 := hf.R hR
  have hnF : ∀ o v, ¬ γ.F w.heap.size o v := fun o v h => by have := lt_of_cell (hR.bx.Fw _ _ _ h); omega
  have hnβ : w.heap.size ∉ γ.β := fun h => by have := hR.bx.β_lt h; omega
  have hno : γ.ow w.heap.size = none := by
    cases h : γ.ow w.heap.size with
    | none => rfl
    | some ℓ => have := (hR.bx.ow _ _ h).1; omega
  refine ⟨_, w.alloc (.stringIter ⟨l.toArray⟩ 0), _, .inl ?_, ?_, h1.addBoxB (bb := .it l 0) (fun j hj => absurd (List.mem_of_getElem? hj) hnβ) hno (heap_alloc_new w _), .ptr _ _ 0 w.heap.size ?_⟩
  · simp only [execOp, ho, hv, Sem.run_bind, hrun, Result.andThen_ok]; rfl
  · have he := hf.ext
    exact ⟨he.os, he.tape, he.output, he.size, he.F, ⟨[w.heap.size], rfl, by simp⟩, he.blk, he.Fnew, he.own, he.sh⟩
  · rw [List.getElem?_append_right (by rw [hR.bx.len]; omega), hR.bx.len]; simp

/-- An iterator goes on. -/
theorem R.setIt (hR : R P γ a w s) {i blk : Nat} {l : List UInt8} {p p' : Nat} (hi : s.bx[i]? = some (.it l p)) (hk : γ.β[i]? = some blk) :
    R P γ a (w.iterAt blk ⟨l.toArray⟩ p') { s with bx := s.bx.set i (.it l p'), lz := none } ∧ Ext γ w γ (w.iterAt blk ⟨l.toArray⟩ p') := by
  have hilt : i < s.bx.length := (List.getElem?_eq_some_iff.1 hi).1
  have hblkβ : blk ∈ γ.β := List.mem_of_getElem? hk
  have hh : w.heap[blk]? = some (.stringIter ⟨l.toArray⟩ p) := hR.bx.box i _ blk hi hk
  have hog : ∀ g ℓ, γ.ow g = some ℓ → g ≠ blk := fun g ℓ h e => (hR.bx.ow g ℓ h).2 (e ▸ hblkβ)
  have hnF : ∀ o v, ¬ γ.F blk o v := fun o v h => by
    have := hR.bx.Fw _ _ _ h
    simp [World.cell?, hh] at this
  have hoth : ∀ g, g ≠ blk → (w.iterAt blk ⟨l.toArray⟩ p').heap[g]? = w.heap[g]? := fun g hg => Lib.iterAt_other w blk g _ _ hg
  have hk1 : ∀ g ℓ, γ.ow g = some ℓ → (w.iterAt blk ⟨l.toArray⟩ p').heap[g]? = w.heap[g]? ∧ (∀ j v, γ.F g j v → γ.F g j v) ∧ γ.ow g = some ℓ := fun g ℓ h => ⟨hoth g (hog g ℓ h), fun _ _ h => h, h⟩
  refine ⟨⟨⟨by simp [hR.bx.len], ?_, nodup_set hR.bx.nodup hi (by simp), ?_, fun b ℓ hb => ?_, fun b e c hsh => ?_⟩, hR.sz, fun t' ht => (hR.tm t' ht).keep (fun _ _ _ h => h) (fun _ _ h => h) (fun g _ hg => hk1 g _ hg), by simp, hR.dl, hR.df⟩, ?_⟩
  · intro i' b' blk' hi' hk'
    rw [List.getElem?_set] at hi'
    split at hi'
    · rename_i e
      subst e
      simp only [hilt, if_true, Option.some.injEq] at hi'
      subst hi'
      have : blk' = blk := by have h := hk'.symm.trans hk; simpa using h
      subst this
      exact Lib.iterAt_heap w blk' _ p p' hh
    · rename_i e
      by_cases hne : blk' = blk
      · subst hne
        have := other_dead hR.bx.nodup hi (by simp) hk hi' hk' (fun h => e h.symm)
        subst this
        exact dead_rep (by rw [Lib.iterAt_size]; exact heap_lt hh)
      · exact (hR.bx.box i' b' blk' hi' hk').keep (fun _ _ _ h => h) (hoth blk' hne) (fun _ _ h => h) (fun g j hg => hk1 g _ hg) (fun _ _ h => h)
  · intro b' o' v hF
    rw [World.cell?_of_block (hoth b' (fun e => hnF o' v (e ▸ hF)))]
    exact hR.bx.Fw _ _ _ hF
  · obtain ⟨k1, k2⟩ := hR.bx.ow b ℓ hb
    exact ⟨by rw [Lib.iterAt_size]; exact k1, k2⟩
  · obtain ⟨q1, cur, q2, q3, q4⟩ := hR.bx.sh b e c hsh
    have hne : b ≠ blk := fun eb => by subst eb; rw [hh] at q2; simp at q2
    exact ⟨q1, cur, (hoth b hne).trans q2, q3, q4⟩
  · exact ⟨rfl, rfl, rfl, by rw [Lib.iterAt_size]; exact Nat.le_refl _, fun _ _ _ h => h, ⟨[], by simp, by simp⟩, fun b hb => hoth b (fun e => hb.2.1 (e ▸ hblkβ)), fun _ _ _ _ h => h, fun b hb => hb.2.2, fun _ _ h => h⟩

theorem op_nextS (hR : R P γ a w s) (hG : GlobOK E γ) {x : Operand} {x' : Opd} (ho : o.op = .next x true) (hx : opd x = some x')
    (h : stepV E cf q o.dst s (.nextS x') = some (av, s1)) : Done P γ a w o av s1 := by
  have hpr := ev_rep hR hG hx
  simp only [stepV] at h
  split at h <;> try (simp at h; done)
  split at h <;> try (simp at h; done)
  rename_i i hpe
  rw [hpe] at hpr
  generalize hpv : a.eval x = pv at hpr
  cases hpr with
  | ptr _ _ blk hblk =>
  split at h <;> try (simp at h; done)
  rename_i l pos hbx
  have hh : w.heap[blk]? = some (.stringIter ⟨l.toArray⟩ pos) := hR.bx.box i _ blk hbx hblk
  have hsz : (⟨l.toArray⟩ : ByteArray).size = l.length := by simp [ByteArray.size]
  split at h
  · rename_i hn
    simp only [Option.some.injEq, Prod.mk.injEq] at h
    obtain ⟨rfl, rfl⟩ := h
    have hge : l.length ≤ pos := List.getElem?_eq_none_iff.1 hn
    have hrun := Lib.run_next_end_at (P := P) w blk ⟨l.toArray⟩ pos o.type hh (by rw [hsz]; omega)
    refine Done.sv hR (v := .tuple #[.bool false]) ?_ (.tup _ _ rfl fun j x hj => ?_)
    · simp only [execOp, ho, hpv, Sem.run_bind, hrun, Result.andThen_ok]; rfl
    · cases j with
      | zero => simp only [List.getElem?_cons_zero, Option.some.injEq] at hj; subst hj; exact .bool _
      | succ j => simp at hj
  · rename_i c hc
    split at h <;> simp only [Option.some.injEq, Prod.mk.injEq, reduceCtorEq] at h
    rename_i hlt
    obtain ⟨rfl, rfl⟩ := h
    have hpl : pos < l.length := (List.getElem?_eq_some_iff.1 hc).1
    have hget : (⟨l.toArray⟩ : ByteArray)[pos]'(by rw [hsz]; exact hpl) = c := by
      have := (List.getElem?_eq_some_iff.1 hc).2
      rw [← this]
      rfl
    have hrun := Lib.run_next_ascii_at (P := P) w blk ⟨l.toArray⟩ pos o.type hh (by rw [hsz]; exact hpl) (by rw [hget]; exact hlt)
    rw [hget] at hrun
    obtain ⟨r1, r2⟩ := hR.setIt (p' := pos + 1) hbx hblk
    refine ⟨.tuple #[.bool true, .int .i64 pos, .int .i32 c.toNat], _, γ, .inl ?_, r2, r1, .sv _ _ _ (.tup _ _ rfl fun j x hj => ?_)⟩
    · simp only [execOp, ho, hpv, Sem.run_bind, hrun, Result.andThen_ok]; rfl
    · match j with
      | 0 => simp only [List.getElem?_cons_zero, Option.some.injEq] at hj; subst hj; exact .bool _
      | 1 => simp only [List.getElem?_cons_succ, List.getElem?_cons_zero, Option.some.injEq] at hj; subst hj; exact .int _ _
      | 2 => simp only [List.getElem?_cons_succ, List.getElem?_cons_zero, Option.some.injEq] at hj; subst hj; exact .int _ _
      | j + 3 => simp at hj

end Go.Ev

set_option linter.unusedSimpArgs false
set_option linter.unusedVariables false
namespace Go.Ev
variable {P : Program} {E : Env} {γ : Gh} {a : Act} {w : World} {s : St} {o : Oper} {cf : CallF} {q : Bool} {s1 : St} {av : AV}

theorem op_movL (hR : R P γ a w s) (hG : GlobOK E γ) {t : Nat} (ho : o.op = .move (.tmp t)) (h : stepV E cf q o.dst s (.movL t) = some (av, s1)) : Done P γ a w o av s1 := by
  simp only [stepV] at h
  split at h <;> simp only [Option.some.injEq, Prod.mk.injEq, reduceCtorEq] at h
  obtain ⟨rfl, rfl⟩ := h
  exact op_mov hR hG ho (show opd (.tmp t) = some (.t t) from rfl)

theorem allSome_map {α β γ : Type} {f : α → Option β} (g : β → γ) : ∀ {l : List α} {m : List β}, allSome (l.map f) = some m → allSome (l.map fun x => (f x).map g) = some (m.map g)
  | [], m, h => by simp only [List.map_nil, allSome, Option.some.injEq] at h; subst h; rfl
  | x :: l, m, h => by
    simp only [List.map_cons] at h ⊢
    cases hx : f x with
    | none => rw [hx] at h; simp [allSome] at h
    | some y =>
      rw [hx] at h
      simp only [Option.map_some, allSome] at h ⊢
      split at h <;> simp only [Option.some.injEq, reduceCtorEq] at h
      rename_i ys hys
      subst h
      rw [allSome_map g hys]
      rfl

theorem op_struct (hR : R P γ a w s) (hG : GlobOK E γ) {t : TypeId} {parts : Array (Nat × Operand)} {z : List SV} {fs : Array Field} {l : List (Nat × Nat × Opd)}
    (ho : o.op = .build t parts) (ht : P.underlying t = some (.struct fs)) (hz : zeroSV P t = some z) (hf : fs.toList.all (fun f => (P.info? f.type).isSome) = true)
    (hl : allSome (parts.toList.map fun p => match fs[p.1]?, opd p.2 with
        | some f, some x => (P.info? f.type).map fun i => (f.offset, i.size, x)
        | _, _ => none) = some l) (h : stepV E cf q o.dst s (.build z l) = some (av, s1)) : Done P γ a w o av s1 := by
  refine op_build hR hG (d := .struct fs) (place := fun j : Nat => (fs[j]?).map fun f : Field => (f.offset, P.cellsOf f.type)) ho hz hl ?_ (build_struct ht hf) h
  intro p r hg
  split at hg <;> simp only [Option.map_eq_some_iff, reduceCtorEq] at hg
  rename_i f x hf' hx
  obtain ⟨i, hi, rfl⟩ := hg
  refine ⟨hx, ?_⟩
  simp [hf', Program.cellsOf, hi]

theorem op_array (hR : R P γ a w s) (hG : GlobOK E γ) {t e : TypeId} {n : Nat} {i : TypeInfo} {parts : Array (Nat × Operand)} {z : List SV} {l : List (Nat × Opd)}
    (ho : o.op = .build t parts) (ht : P.underlying t = some (.array n e)) (hz : zeroSV P t = some z) (hi : P.info? e = some i)
    (hl : allSome (parts.toList.map fun p => (opd p.2).map fun x => (p.1, x)) = some l) (h : stepV E cf q o.dst s (.build z (l.map fun p => (p.1 * i.size, i.size, p.2))) = some (av, s1)) : Done P γ a w o av s1 := by
  have hl' := allSome_map (fun p : Nat × Opd => (p.1 * i.size, i.size, p.2)) hl
  refine op_build hR hG (d := .array n e) (place := fun j => some (j * i.size, i.size)) ho hz hl' ?_ (build_array ht hi) h
  intro p r hg
  simp only [Option.map_map, Option.map_eq_some_iff] at hg
  obtain ⟨x, hx, rfl⟩ := hg
  exact ⟨hx, rfl⟩

theorem done_of (hR : R P γ a w s) (hG : GlobOK E γ) {ops : Array Oper} {op : AOp} (hc : cOp P ops o = some op) (hnc : ∀ f args, op ≠ .call f args) (hnd : ∀ f, op ≠ .dfr f)
    (h : stepV E cf q o.dst s op = some (av, s1)) : Done P γ a w o av s1 := by
  unfold cOp at hc
  split at hc
  · -- move
    rename_i x ho
    split at hc
    · simp only [Option.some.injEq] at hc; subst hc; exact op_movL hR hG ho h
    · simp only [Option.map_eq_some_iff] at hc; obtain ⟨y, hy, rfl⟩ := hc
      simp only [stepV, Option.some.injEq, Prod.mk.injEq] at h
      obtain ⟨rfl, rfl⟩ := h
      exact op_mov hR hG ho hy
  · rename_i x ho
    simp only [Option.map_eq_some_iff] at hc; obtain ⟨y, hy, rfl⟩ := hc
    exact op_asg hR hG ho hy h
  · rename_i c x y ho
    split at hc <;> simp only [Option.some.injEq, reduceCtorEq] at hc
    subst hc
    simp only [stepV] at h
    split at h <;> simp only [Option.some.injEq, Prod.mk.injEq, reduceCtorEq] at h
    obtain ⟨rfl, rfl⟩ := h
    exact op_pick hR hG ho (by assumption) (by assumption) (by assumption) (by assumption)
  · -- load
    rename_i t p ho
    split at hc <;> try (simp at hc; done)
    · rename_i hp hn
      split at hc <;> simp only [Option.some.injEq] at hc <;> subst hc
      · exact op_loadL hR hG ho hn hp h
      · exact op_load hR hG ho hn hp h
    · simp only [Option.some.injEq] at hc; subst hc
      exact op_load hR hG ho (by assumption) (by assumption) h
  · -- store
    rename_i t p v ho
    split at hc <;> simp only [Option.some.injEq, reduceCtorEq] at hc
    subst hc
    exact op_store hR hG ho (by assumption) (by assumption) (by assumption) h
  · rename_i t ho
    simp only [Option.map_eq_some_iff] at hc; obtain ⟨z, hz, rfl⟩ := hc
    exact op_new hR hG ho hz h
  · rename_i t x ho
    split at hc <;> simp only [Option.some.injEq, reduceCtorEq] at hc
    subst hc
    exact op_box hR hG ho (by assumption) (by assumption) h
  · -- build
    rename_i t parts ho
    split at hc <;> try (simp at hc; done)
    · split at hc <;> try (simp at hc; done)
      split at hc <;> simp only [Option.some.injEq, reduceCtorEq] at hc
      subst hc
      exact op_struct hR hG ho (by assumption) (by assumption) (by assumption) (by assumption) h
    · split at hc <;> simp only [Option.some.injEq, reduceCtorEq] at hc
      subst hc
      exact op_array hR hG ho (by assumption) (by assumption) (by assumption) (by assumption) h
  · -- buildSlice
    rename_i t n parts ho
    split at hc <;> try (simp at hc; done)
    split at hc <;> try (simp at hc; done)
    split at hc <;> simp only [Option.some.injEq, reduceCtorEq] at hc
    rename_i hcond
    subst hc
    exact op_mkSl hR hG ho (by assumption) (by assumption) (by assumption) hcond.1 hcond.2.1 hcond.2.2.1 hcond.2.2.2 h
  · -- binOp
    rename_i op' t x y t' ho
    split at hc
    · simp only [Option.some.injEq] at hc; subst hc; exact op_bin hR hG ho (by assumption) (by assumption) h
    · simp only [Option.some.injEq] at hc; subst hc; exact op_bin hR hG ho (by assumption) (by assumption) h
    · simp only [Option.some.injEq] at hc; subst hc; exact op_bin hR hG ho (by assumption) (by assumption) h
    · split at hc <;> simp only [Option.some.injEq, reduceCtorEq] at hc <;> subst hc
      · exact op_eqB hR hG (ng := false) rfl ho (by assumption) (by assumption) (by assumption) h
      · exact op_eqB hR hG (ng := true) rfl ho (by assumption) (by assumption) (by assumption) h
    · rename_i ha hb ht
      split at hc <;> try (simp at hc; done)
      rename_i k hk
      split at hc <;> simp only [Option.some.injEq, reduceCtorEq] at hc <;> subst hc
      · exact op_isNil hR hG (ng := false) rfl ht hk ho ha (.inl ⟨rfl, by assumption⟩) h
      · exact op_isNil hR hG (ng := true) rfl ht hk ho ha (.inl ⟨rfl, by assumption⟩) h
      · exact op_isNil hR hG (ng := false) rfl ht hk ho hb (.inr ⟨rfl, by assumption⟩) h
      · exact op_isNil hR hG (ng := true) rfl ht hk ho hb (.inr ⟨rfl, by assumption⟩) h
    · simp at hc
  · -- unOp
    rename_i op' t x ho
    split at hc <;> simp only [Option.some.injEq, reduceCtorEq] at hc <;> subst hc
    · exact op_not hR hG ho (by assumption) h
    · exact op_neg hR hG ho (by assumption) h
    · exact op_cpl hR hG ho (by assumption) h
  · -- convert
    rename_i t d x ho
    split at hc
    · simp only [Option.some.injEq] at hc; subst hc; exact op_i2i hR hG ho (by assumption) (by assumption) (by assumption) h
    · simp only [Option.some.injEq] at hc; subst hc; exact op_i2f hR hG ho (by assumption) (by assumption) (by assumption) h
    · simp only [Option.some.injEq] at hc; subst hc; exact op_s2s hR hG ho (by assumption) (by assumption) (by assumption) h
    · split at hc <;> try (simp at hc; done)
      split at hc <;> simp only [Option.some.injEq] at hc <;> subst hc
      · exact op_s2r hR hG ho (by assumption) (by assumption) (by assumption) (by assumption) h
      · exact op_s2b hR hG ho (by assumption) (by assumption) (by assumption) (by assumption) h
    · split at hc <;> simp only [Option.some.injEq, reduceCtorEq] at hc; subst hc; exact op_b2s hR hG ho (by assumption) (by assumption) (by assumption) (by assumption) h
    · simp at hc
  · -- makeInterface
    rename_i t x ho
    split at hc
    · simp at hc
    · rename_i a' d hd hx ht
      simp only [Option.some.injEq] at hc; subst hc
      exact op_mkI hR hG ho ht (fun ms e => hd ms e) hx h
    · simp at hc
  · rename_i f first cap ho
    split at hc <;> simp only [Option.some.injEq, reduceCtorEq] at hc
    subst hc
    exact op_mkF hR hG ho (by assumption) (by assumption) h
  · -- makeSlice
    rename_i t l c ho
    split at hc <;> try (simp at hc; done)
    rename_i e ht
    split at hc <;> try (simp at hc; done)
    rename_i k b z l' c' hs hz hl hcc
    split at hc <;> try (simp at hc; done)
    rename_i hk
    split at hc
    · split at hc <;> simp only [Option.some.injEq, reduceCtorEq] at hc
      rename_i hij; subst hij; subst hc
      exact op_mkR hR hG ho ht hs hz hk hl hcc h
    · split at hc
      · rename_i hkn
        obtain ⟨rfl, rfl⟩ := hkn
        simp only [Option.some.injEq] at hc; subst hc
        exact op_mkR hR hG ho ht hs hz hk hl hcc h
      · split at hc <;> simp only [Option.some.injEq, reduceCtorEq] at hc
        rename_i hn; subst hn; subst hc
        exact op_mkC hR hG ⟨_, ho, hl⟩ ht hs (by rw [hz]; rfl) hk hcc h
    · split at hc <;> simp only [Option.some.injEq, reduceCtorEq] at hc
      rename_i hn; subst hn; subst hc
      exact op_mkC hR hG ⟨_, ho, hl⟩ ht hs (by rw [hz]; rfl) hk hcc h
    · simp at hc
  · -- slice
    rename_i t x lo hi ho
    split at hc
    · simp only [Option.some.injEq] at hc; subst hc; exact op_subS hR hG ho (by assumption) (by assumption) (by assumption) (by assumption) h
    · simp only [Option.map_eq_some_iff] at hc; obtain ⟨i, hi', rfl⟩ := hc
      exact op_subL hR hG ho (by assumption) hi' (by assumption) (by assumption) (by assumption) h
    · simp at hc
  · -- fieldAddr
    rename_i t p f ho
    split at hc <;> try (simp at hc; done)
    split at hc <;> try (simp at hc; done)
    split at hc <;> try (simp at hc; done)
    split at hc <;> simp only [Option.some.injEq, reduceCtorEq] at hc
    subst hc
    exact op_fAddr hR hG ho (by assumption) (by assumption) (by assumption) (by assumption) (by assumption) h
  · rename_i t x f ho
    split at hc <;> try (simp at hc; done)
    split at hc <;> try (simp at hc; done)
    simp only [Option.map_eq_some_iff] at hc; obtain ⟨n, hn, rfl⟩ := hc
    exact op_fld hR hG ho (by assumption) (by assumption) hn (by assumption) h
  · rename_i t x i ho
    split at hc
    · simp only [Option.map_eq_some_iff] at hc; obtain ⟨j, hj, rfl⟩ := hc
      exact op_iAddrS hR hG ho (by assumption) hj (by assumption) (by assumption) h
    · simp only [Option.map_eq_some_iff] at hc; obtain ⟨j, hj, rfl⟩ := hc
      exact op_iAddrA hR hG ho (by assumption) hj (by assumption) (by assumption) h
    · simp at hc
  · rename_i t x i ho
    split at hc
    · simp only [Option.some.injEq] at hc; subst hc; exact op_idxS hR hG ho (by assumption) (by assumption) (by assumption) h
    · split at hc <;> simp only [Option.some.injEq, reduceCtorEq] at hc
      subst hc
      exact op_idxA hR hG ho (by assumption) (by assumption) (by assumption) (by assumption) (by assumption) h
    · simp at hc
  · rename_i x i ho
    simp only [Option.map_eq_some_iff] at hc; obtain ⟨y, hy, rfl⟩ := hc
    exact op_ext hR hG ho hy h
  · -- call
    rename_i c ho
    split at hc <;> try (simp at hc; done)
    rename_i args hargs
    split at hc
    · simp only [Option.map_eq_some_iff] at hc; obtain ⟨y, hy, rfl⟩ := hc
      exact absurd rfl (hnc _ _)
    · -- len
      rename_i hcal
      split at hc <;> try (simp at hc; done)
      rename_i x' t hct
      have hone : ∃ x, c.args.toList = [x] ∧ opd x = some x' := by
        have hl := (opds_get hargs)
        match hca : c.args.toList with
        | [] => rw [hca] at hl; simp at hl
        | [x] =>
          rw [hca] at hl
          obtain ⟨_, h2⟩ := hl
          obtain ⟨y, hy, hyo⟩ := h2 0 x' rfl
          simp only [List.getElem?_cons_zero, Option.some.injEq] at hy
          subst hy
          exact ⟨x, rfl, hyo⟩
        | x :: y :: r => rw [hca] at hl; simp at hl
      obtain ⟨x, hca, hx⟩ := hone
      split at hc <;> simp only [Option.some.injEq, reduceCtorEq] at hc <;> subst hc
      · exact op_lenS hR hG ho hcal hca hct (by assumption) hx h
      · exact op_lenL hR hG ho hcal hca hct (by assumption) hx h
    · -- append
      rename_i hcal
      split at hc <;> try (simp at hc; done)
      rename_i x' y' x y t u hca hct
      split at hc <;> try (simp at hc; done)
      rename_i e hte
      split at hc <;> try (simp at hc; done)
      rename_i htu
      obtain ⟨rfl, hz⟩ := htu
      split at hc <;> simp only [Option.some.injEq, reduceCtorEq] at hc
      rename_i k n hsz
      subst hc
      rw [hca] at hargs
      obtain ⟨_, h2⟩ := opds_get hargs
      have hx : opd x = some x' := by
        obtain ⟨z, hz, hzo⟩ := h2 0 x' rfl
        simp only [List.getElem?_cons_zero, Option.some.injEq] at hz
        subst hz; exact hzo
      have hy : opd y = some y' := by
        obtain ⟨z, hz, hzo⟩ := h2 1 y' rfl
        simp only [List.getElem?_cons_succ, List.getElem?_cons_zero, Option.some.injEq] at hz
        subst hz; exact hzo
      have hcc : c = { callee := .builtin .append, args := #[x, y], argTypes := #[t, t] } := by
        obtain ⟨c1, c2, c3⟩ := c
        simp only at hcal hca hct
        have e2 : c2 = #[x, y] := by rw [← hca]
        have e3 : c3 = #[t, t] := by rw [← hct]
        rw [hcal, e2, e3]
      rw [hcc] at ho
      exact op_app hR hG ho hte hsz hz hx hy h
    · rename_i hcal
      split at hc <;> simp only [Option.some.injEq, reduceCtorEq] at hc
      subst hc
      obtain ⟨x, y, hca, hx, hy⟩ := two_args hargs
      exact op_mm (mx := true) hR hG ho hcal hca hx hy h
    · rename_i hcal
      split at hc <;> simp only [Option.some.injEq, reduceCtorEq] at hc
      subst hc
      obtain ⟨x, y, hca, hx, hy⟩ := two_args hargs
      exact op_mm (mx := false) hR hG ho hcal hca hx hy h
    · simp at hc
  · rename_i x ho
    simp only [Option.map_eq_some_iff] at hc; obtain ⟨y, hy, rfl⟩ := hc
    exact op_nilChk hR hG ho hy h
  · rename_i c ho
    split at hc <;> try (simp at hc; done)
    simp only [Option.map_eq_some_iff] at hc; obtain ⟨y, hy, rfl⟩ := hc
    exact absurd rfl (hnd _)
  · rename_i t x ho
    split at hc <;> simp only [Option.some.injEq, reduceCtorEq] at hc
    subst hc
    exact op_rngS hR hG ho (by assumption) (by assumption) h
  · rename_i x b ho
    split at hc <;> try (simp at hc; done)
    rename_i hb
    subst hb
    simp only [Option.map_eq_some_iff] at hc; obtain ⟨y, hy, rfl⟩ := hc
    exact op_nextS hR hG ho hy h
  · simp at hc

end Go.Ev
