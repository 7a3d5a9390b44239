/- Appends. -/
/- Texts gone through sign by sign. -/
/- One operation: all kinds. -/
/- Calls: what is asked of a called function, and one operation with what follows it. -/
/- Regions in the text's order. -/
import Derived.Test.YtcjebcenbimcgaaGreatDoorGac
import Derived.Lib.OthersKept
set_option linter.unusedSimpArgs false
set_option linter.unusedVariables false
namespace Go.Ev
variable {P : Program} {E : Env} {γ : Gh} {a : Act} {w : World} {s : St} {o : Oper} {cf : CallF} {q : Bool} {s1 : St} {av : AV}
theorem R.disownCell (hR : R P γ a w s) {i off blk : Nat} {cs : List Cell} {e : Nat} {ys : List SV} (hi : s.bx[i]? = some (.live cs)) (hk : γ.β[i]? = some blk) (hc : cs[off]? = some (.own e ys)) :
    ∃ u, w.cell? ⟨blk, off, none⟩ = some u ∧ R P (γ.mv (.cell i off) .ret) a w { s with bx := s.bx.set i (.live (cs.set off (.sv (.sl ys)))), lz := none } ∧ RepA P (γ.mv (.cell i off) .ret) w .ret (.own e ys) u := by
  have hilt : i < s.bx.length := (List.getElem?_eq_some_iff.1 hi).1
  have hoff : off < cs.length := (List.getElem?_eq_some_iff.1 hc).1
  obtain ⟨arr, t, m, k1, ⟨k2, kf⟩, k3, k4⟩ := hR.bx.box i _ blk hi hk
  have hO : RepO P γ w (.cell i off) e ys (arr.getD off undef) := k3 off _ hc
  refine ⟨arr.getD off undef, ?_, ⟨⟨by simp [Gh.mv, hR.bx.len], ?_, hR.bx.nodup, hR.bx.Fw, ?_⟩, hR.sz, fun t' ht => (hR.tm t' ht).mv_other (by simp), by simp, hR.dl, ?_⟩, RepA.mv_same (.own _ _ _ _ hO)⟩
  · rw [cell_of_row w blk off arr t m k1, Array.getD_eq_getD_getElem?, Array.getElem?_eq_getElem (by omega)]
    rfl
  · intro i' b' blk' hi' hk'
    rw [List.getElem?_set] at hi'
    split at hi'
    · rename_i e'
      subst e'
      simp only [hilt, if_true, Option.some.injEq] at hi'
      subst hi'
      have : blk' = blk := by have h := hk'.symm.trans hk; simpa using h
      subst this
      refine ⟨arr, t, m, k1, ⟨by simpa using k2, by simpa using kf⟩, fun j c hc' => ?_, k4⟩
      rw [List.getElem?_set] at hc'
      split at hc'
      · rename_i ej
        subst ej
        simp only [hoff, if_true, Option.some.injEq] at hc'
        subst hc'
        exact ⟨rfl, show RepS γ.F _ _ from hO.rep⟩
      · rename_i ej
        exact (k3 j c hc').keep (fun _ _ _ h => h) (fun g _ hg => ⟨rfl, fun _ _ h => h, Gh.mv_other (by simp; omega) hg⟩) (by intro i b h; exact h)
    · rename_i e'
      exact (hR.bx.box i' b' blk' hi' hk').keep (fun _ _ _ h => h) rfl (fun _ _ h => h) (fun g j hg => ⟨rfl, fun _ _ h => h, Gh.mv_other (by simp; omega) hg⟩) (by intro i b h; exact h)
  · intro b ℓ ho
    simp only [Gh.mv] at ho
    split at ho
    · rename_i e'; exact hR.bx.ow b _ e'
    · exact hR.bx.ow b _ ho
  · intro j d c hd hc'
    exact hR.df j d c hd hc'
theorem R.noLz (hR : R P γ a w s) : R P γ a w { s with lz := none } := ⟨hR.bx, hR.sz, hR.tm, by simp, hR.dl, hR.df⟩
theorem own_lt {t e : Nat} {ys : List SV} (h : s.rd t = .own e ys) : t < s.tm.length := by
  refine Decidable.byContradiction fun hn => ?_
  simp only [St.rd, List.getD_eq_getElem?_getD] at h
  rw [List.getElem?_eq_none (by omega)] at h
  simp at h
theorem nil_lt {t : Nat} (h : s.rd t = .sv .nilS) : t < s.tm.length := by
  refine Decidable.byContradiction fun hn => ?_
  simp only [St.rd, List.getD_eq_getElem?_getD] at h
  rw [List.getElem?_eq_none (by omega)] at h
  simp at h
theorem appBase_ok (hR : R P γ a w s) (hG : GlobOK E γ) {x : Operand} {x' : Opd} (hx : opd x = some x') {ys : List SV} {e' : Option Nat} {s' : St}
    (h : appBase E s (srcOf x) x' = some (ys, e', s')) :
    ∃ γ', R P γ' a w s' ∧ Ext γ w γ' w ∧ γ'.F = γ.F ∧ ((e' = none ∧ ys = [] ∧ ∃ p, a.eval x = .slice p 0 0) ∨ ∃ e, e' = some e ∧ RepA P γ' w .ret (.own e ys) (a.eval x)) := by
  have hnil : ∀ {ℓ : Loc} {u : Value}, RepA P γ w ℓ (.sv .nilS) u → ∃ p, u = .slice p 0 0 := fun h => by have := h.sv_inv; cases this; exact ⟨_, rfl⟩
  cases x with
  | tmp t =>
    simp only [opd, Option.some.injEq] at hx; subst hx
    simp only [Act.eval]
    unfold appBase srcOf at h
    simp only at h
    split at h
    · rename_i t0 t' ℓ hd hlz
      simp only [Option.some.injEq] at hd; subst hd
      split at h <;> try (simp at h; done)
      rename_i ett
      subst ett
      have hat := hR.lz t ℓ hlz
      split at h <;> try (simp at h; done)
      · rename_i u
        have hat' : a.tmps.getD u undef = a.tmps.getD t undef := hat
        split at h <;> simp only [Option.some.injEq, Prod.mk.injEq, reduceCtorEq] at h <;> obtain ⟨rfl, rfl, rfl⟩ := h
        · rename_i e ys hrd
          obtain ⟨r1, r2⟩ := hR.disown (own_lt hrd)
          rw [hrd, hat'] at r2
          exact ⟨_, r1.noLz, Gh.mv_ext _ _ _ _, rfl, .inr ⟨e, rfl, r2⟩⟩
        · rename_i hrd
          refine ⟨γ, hR.noLz, Ext.refl _ _, rfl, .inl ⟨rfl, rfl, ?_⟩⟩
          have hu := nil_lt hrd
          rw [← hat']
          exact hnil (hrd ▸ hR.tm u hu)
      · rename_i i off
        obtain ⟨blk, hb, hc⟩ := hat
        split at h <;> try (simp at h; done)
        rename_i cs hcs
        split at h <;> simp only [Option.some.injEq, Prod.mk.injEq, reduceCtorEq] at h <;> obtain ⟨rfl, rfl, rfl⟩ := h
        · rename_i e ys hcell
          obtain ⟨u, q1, q2, q3⟩ := hR.disownCell hcs hb hcell
          rw [hc] at q1
          rw [Option.some.inj q1]
          exact ⟨_, q2, Gh.mv_ext _ _ _ _, rfl, .inr ⟨e, rfl, q3⟩⟩
        · rename_i hcell
          refine ⟨γ, hR.noLz, Ext.refl _ _, rfl, .inl ⟨rfl, rfl, ?_⟩⟩
          obtain ⟨arr, ty, m, k1, ⟨k2, _⟩, k3, k4⟩ := hR.bx.box i _ blk hcs hb
          have h3 := k3 off _ hcell
          have hlt : off < arr.size := by have := (List.getElem?_eq_some_iff.1 hcell).1; omega
          rw [cell_of_row w blk off arr ty m k1, Array.getElem?_eq_getElem hlt] at hc
          rw [← Option.some.inj hc]
          have h4 := h3.2
          rw [Array.getD_eq_getD_getElem?, Array.getElem?_eq_getElem hlt] at h4
          simp only [Option.getD_some] at h4
          generalize arr[off] = y at h4
          cases h4; exact ⟨_, rfl⟩
    · rename_i t0 hd hlz
      simp only [Option.some.injEq] at hd; subst hd
      split at h <;> simp only [Option.some.injEq, Prod.mk.injEq, reduceCtorEq] at h <;> obtain ⟨rfl, rfl, rfl⟩ := h
      · rename_i e ys hrd
        obtain ⟨r1, r2⟩ := hR.disown (own_lt hrd)
        rw [hrd] at r2
        exact ⟨_, r1, Gh.mv_ext _ _ _ _, rfl, .inr ⟨e, rfl, r2⟩⟩
      · rename_i hrd
        refine ⟨γ, hR, Ext.refl _ _, rfl, .inl ⟨rfl, rfl, ?_⟩⟩
        have hu := nil_lt hrd
        exact hnil (hrd ▸ hR.tm t hu)
    · simp at *
  | _ =>
    unfold appBase srcOf at h
    simp only at h
    split at h <;> try (simp at h; done)
    rename_i hxe
    simp only [Option.some.injEq, Prod.mk.injEq] at h
    obtain ⟨rfl, rfl, rfl⟩ := h
    exact ⟨γ, hR, Ext.refl _ _, rfl, .inl ⟨rfl, rfl, hnil (hxe ▸ ev_rep hR hG hx)⟩⟩
theorem R.grow (hR : R P γ a w s) {w' : World} {g0 : Option Nat} (hgr : w.grownBy w' g0) {g : Nat} (hg : g0 = some g ∨ w.heap.size ≤ g) (hown : ∀ k, g0 = some k → γ.ow k = some .ret) {vs : List Value} (hglt : g < w'.heap.size) (hc : ∀ (j : Nat) (v : Value), vs[j]? = some v → w'.cell? ⟨g, j, none⟩ = some v)
    (hold : ∀ k, g0 = some k → ∀ j v, γ.F k j v → w'.cell? ⟨k, j, none⟩ = some v) :
    ∃ γ', R P γ' a w' s ∧ Ext γ w γ' w' ∧ γ'.ow g = some .ret ∧ (∀ (j : Nat) (v : Value), vs[j]? = some v → γ'.F g j v) ∧ (∀ j v, γ'.F g j v → γ.F g j v ∨ vs[j]? = some v) ∧ ∀ b o v, γ.F b o v → γ'.F b o v := by
  let γ' : Gh := { γ with F := fun b o v => γ.F b o v ∨ (b = g ∧ vs[o]? = some v), ow := fun b => if b = g then some .ret else γ.ow b }
  have hFs : ∀ b o v, γ.F b o v → γ'.F b o v := fun b o v h => .inl h
  have hFn : ∀ b, b ≠ g → ∀ o v, γ'.F b o v → γ.F b o v := fun b hb o v h => h.resolve_right (fun h => hb h.1)
  have hgo : ∀ b, b < w.heap.size → γ.ow b ≠ some .ret → b ≠ g := by
    intro b hb hn e
    subst e
    rcases hg with hg | hg
    · exact hn (hown _ hg)
    · omega
  have hblk : ∀ b, b < w.heap.size → γ.ow b ≠ some .ret → w'.heap[b]? = w.heap[b]? := fun b hb hn => hgr.block b hb (fun e => hn (hown b e.symm))
  have hβ : ∀ b, b ∈ γ.β → b < w.heap.size ∧ γ.ow b ≠ some .ret := fun b hb => ⟨hR.bx.β_lt hb, fun e => (hR.bx.ow b _ e).2 hb⟩
  have hk : ∀ b ℓ, ℓ ≠ .ret → γ.ow b = some ℓ → w'.heap[b]? = w.heap[b]? ∧ (∀ j v, γ'.F b j v → γ.F b j v) ∧ γ'.ow b = some ℓ := by
    intro b ℓ hℓ ho
    have h1 := (hR.bx.ow b ℓ ho).1
    have h2 : γ.ow b ≠ some .ret := by rw [ho]; simpa using hℓ
    have h3 := hgo b h1 h2
    exact ⟨hblk b h1 h2, hFn b h3, by show (if b = g then _ else _) = _; rw [if_neg h3]; exact ho⟩
  have hA : ∀ {ℓ : Loc} {av : AV} {u : Value}, ℓ ≠ .ret → RepA P γ w ℓ av u → RepA P γ' w' ℓ av u := fun hℓ h => h.keep hFs (fun _ _ h => h) (fun b _ hb => hk b _ hℓ hb)
  refine ⟨γ', ⟨⟨hR.bx.len, ?_, hR.bx.nodup, ?_, ?_⟩, hR.sz, fun t ht => hA (by simp) (hR.tm t ht), ?_, hR.dl, ?_⟩, ?_, by simp [γ'], fun j v h => .inr ⟨rfl, h⟩, fun j v h => h.imp id (fun h => h.2), hFs⟩
  · intro i b blk hi hb
    obtain ⟨q1, q2⟩ := hβ blk (List.mem_of_getElem? hb)
    exact (hR.bx.box i b blk hi hb).keep hFs (hblk blk q1 q2) (hFn blk (hgo blk q1 q2)) (fun g' j hg' => hk g' _ (by simp) hg') (fun _ _ h => h)
  · intro b o v h
    rcases h with h | ⟨rfl, h⟩
    · have hc0 := hR.bx.Fw _ _ _ h
      by_cases e : g0 = some b
      · exact hold b e o v h
      · exact (World.cell?_of_block (w := w) (hgr.block b (lt_of_cell hc0) (fun h => e h.symm))).trans hc0
    · exact hc o v h
  · intro b ℓ ho
    simp only [γ'] at ho
    split at ho
    · rename_i e
      subst e
      refine ⟨hglt, fun hm => ?_⟩
      obtain ⟨q1, q2⟩ := hβ b hm
      exact hgo b q1 q2 rfl
    · obtain ⟨q1, q2⟩ := hR.bx.ow b ℓ ho
      exact ⟨Nat.lt_of_lt_of_le q1 hgr.size, q2⟩
  · intro d ℓ hd
    have := hR.lz d ℓ hd
    cases ℓ with
    | tmp t => exact this
    | cell i off =>
      obtain ⟨b, hb, hcc⟩ := this
      obtain ⟨q1, q2⟩ := hβ b (List.mem_of_getElem? hb)
      exact ⟨b, hb, (World.cell?_of_block (w := w) (hblk b q1 q2)).trans hcc⟩
    | ret => trivial
  · intro i d c hd hc'
    exact hR.df i d c hd hc'
  · refine ⟨hgr.os, hgr.tape, hgr.output, hgr.size, hFs, ⟨[], by simp [γ'], by simp⟩, fun b hb => hblk b hb.1 (by rw [hb.2.2]; simp), fun b o v hb h => hFn b (hgo b hb.1 (by rw [hb.2.2]; simp)) o v h, fun b hb => ?_⟩
    show (if b = g then _ else _) = _
    rw [if_neg (hgo b hb.1 (by rw [hb.2.2]; simp))]
    exact hb.2.2
theorem run_append_none (t ty e : TypeId) (i : TypeInfo) (ht : P.underlying t = some (.slice e)) (hi : P.info? e = some i) (base : Option Addr) (n cap : Nat) (hn : n ≤ cap) (p : Option Addr) (c : Nat) :
    (Builtin.append_ #[t, t] ty #[.slice base n cap, .slice p 0 c]).run P w = .ok (.slice base n cap) w := by
  cases p <;> cases base <;> simp [Builtin.append_, run_underlying ht, sizeOf, typeInfo, hi, Builtin.lenOf, Builtin.firstCells, loadCells, loadCellsFrom, storeCells, hn]
theorem run_append_nil_any (w : World) (t ty e : TypeId) (i : TypeInfo) (z : Value) (ht : P.underlying t = some (.slice e)) (hi : P.info? e = some i) (hz : i.zero = some z) (q : Option Addr)
    (a : Addr) (n c : Nat) (news : List Value) (hl : news.length = n * i.size) (hnews : ∀ j v, news[j]? = some v → w.cell? (a.add j) = some v)
    (h0 : 0 < n) (h63 : (n : Int) ≤ 9223372036854775807) (h48 : n * i.bytes ≤ 281474976710656) :
    (Builtin.append_ #[t, t] ty #[.slice q 0 0, .slice (some a) n c]).run P w = (Builtin.append_ #[t, t] ty #[.slice none 0 0, .slice (some a) n c]).run P w := by
  cases q with
  | none => rfl
  | some b =>
    rw [run_append_nil (P := P) w t ty e i z ht hi hz a n c news hl hnews h0 h63 h48]
    have h := run_append_grow (P := P) w t ty e i z ht hi hz b 0 0 [] (by simp) (by simp) a n c news hl hnews (by omega) (by simpa using h63) (by rw [Nat.zero_add, nextslicecap_zero h0]; exact h48)
    rw [h]
    simp
theorem op_app0 (hR : R P γ a w s) (hG : GlobOK E γ) {t e : TypeId} {k b : Nat} {x y : Operand} {x' y' : Opd} (ho : o.op = .call { callee := .builtin .append, args := #[x, y], argTypes := #[t, t] }) (ht : P.underlying t = some (.slice e)) (hs : sizeB P e = some (k, b)) (hz : zeroOK P e = true)
    (hx : opd x = some x') (hy : opd y = some y') (h : doApp E s e k b (srcOf x) x' y' = some (av, s1)) : Done P γ a w o av s1 := by
  unfold doApp at h
  split at h <;> try (simp at h; done)
  rename_i new hnew
  split at h <;> try (simp at h; done)
  rename_i ys e' s' hbase
  split at h <;> try (simp at h; done)
  rename_i hcond
  obtain ⟨hby, h63, hee, hk0, huni⟩ := hcond
  have hyr := (ev_rep hR hG hy).elems hnew
  obtain ⟨γ1, r1, r2, r3, r4⟩ := appBase_ok hR hG hx hbase
  rw [← r3] at hyr
  simp only [sizeB, Option.map_eq_some_iff, Prod.mk.injEq] at hs
  obtain ⟨ie, hie, hsz, hbb⟩ := hs
  unfold zeroOK at hz
  rw [hie] at hz
  simp only at hz
  split at hz <;> try (simp at hz; done)
  rename_i zv hzv
  have hzs : zv.cells.size = k := by rw [← hsz]; simpa using hz
  have hke : P.cellsOf e = k := by simp [Program.cellsOf, hie, hsz]
  have hexec : ∀ {r : Value} {w' : World}, (Builtin.append_ #[t, t] o.type #[a.eval x, a.eval y]).run P w = .ok r w' → (execOp a.eval o).run P w = .ok (.value r) w' := by
    intro r w' hr
    unfold execOp
    simp only [ho, resolve, invoke, builtin, Sem.run_bind, Sem.run_pure, Result.andThen_ok, List.map_toArray, List.map_cons, List.map_nil, hr]
  rcases hyr.sl_inv with ⟨hnil, p, c, hu⟩ | ⟨bl, off, c, k', vs, hu, hk', hne, hcap, hlk, hF, hone, hr⟩
  · subst hnil
    rcases r4 with ⟨rfl, rfl, hxv⟩ | ⟨e1, rfl, r4⟩
    · simp only [Option.some.injEq, Prod.mk.injEq] at h
      obtain ⟨rfl, rfl⟩ := h
      obtain ⟨q, hxv⟩ := hxv
      refine ⟨_, w, γ1, .inl (hexec ?_), r2, r1, .sv _ _ _ (.nilS q)⟩
      rw [hxv, hu]
      exact run_append_none t o.type e ie ht hie q 0 0 (Nat.le_refl _) p c
    · simp only [reduceCtorEq, false_or, Option.some.injEq] at hee
      subst hee
      simp only [Option.some.injEq, Prod.mk.injEq, List.append_nil] at h
      obtain ⟨rfl, rfl⟩ := h
      refine ⟨a.eval x, w, γ1, .inl (hexec ?_), r2, r1, r4⟩
      rw [hu]
      cases r4 with
      | own _ _ _ hO =>
        obtain ⟨us, g, ⟨_, hor⟩, _, _, _, hob, _⟩ := hO
        rcases hor with ⟨hvn, _⟩ | ⟨g', cap, cur, hve, _, _, hnc, _⟩
        · rw [hvn] at hob; simp [Value.ownBlock] at hob
        · rw [hve]; exact run_append_none t o.type e1 ie ht hie _ _ _ hnc p c
  · have hres : av = .own e (ys ++ new) ∧ s1 = s' := by
      cases e' <;> cases new <;> simp_all
    obtain ⟨rfl, rfl⟩ := hres
    have hkk : k' = k := by
      cases new with
      | nil => exact absurd rfl hne
      | cons y0 _ => exact (hlk y0 (by simp)).symm.trans (uni_spec huni y0 (by simp))
    subst hkk
    let news : List Value := (List.range (new.length * k')).map vs
    have hnl : news.length = new.length * k' := by simp [news]
    have hng : ∀ (j : Nat) (u : Value), news[j]? = some u → j < new.length * k' ∧ vs j = u := by
      intro j u hj
      have hjl : j < new.length * k' := by rw [← hnl]; exact (List.getElem?_eq_some_iff.1 hj).1
      simp only [news, List.getElem?_map, List.getElem?_range hjl, Option.map_some, Option.some.injEq] at hj
      exact ⟨hjl, hj⟩
    have hfll := flat_length hlk
    have h1 : ∀ u ∈ news, u.oneCell' = true := by
      intro u hu'
      obtain ⟨j, hj⟩ := List.getElem?_of_mem hu'
      obtain ⟨hjl, rfl⟩ := hng j u hj
      have hfx : (flat new)[j]? = some ((flat new)[j]'(by omega)) := by simp [hfll, hjl]
      exact (hr j _ hfx).oneCell (hone j _ hfx)
    have hnews : ∀ j u, news[j]? = some u → w.cell? ((⟨bl, off, none⟩ : Addr).add j) = some u := by
      intro j u hj
      obtain ⟨hjl, rfl⟩ := hng j u hj
      rw [add_none]
      exact r1.bx.Fw _ _ _ (hF j hjl)
    have hbaseO : ∃ v0 us, (Builtin.append_ #[t, t] o.type #[a.eval x, .slice (some ⟨bl, off, none⟩) new.length c]).run P w = (Builtin.append_ #[t, t] o.type #[v0, .slice (some ⟨bl, off, none⟩) new.length c]).run P w ∧ w.ownsRow 0 e k' v0 ys.length us ∧ (∀ x ∈ ys, x.cells.length = k') ∧ (∀ (j : Nat) (x : SV), (flat ys)[j]? = some x → x.one = true ∧ ∃ v, us[j]? = some v ∧ RepS γ1.F x v) ∧
        (∀ g, v0.ownBlock = some g → γ1.ow g = some .ret ∧ (∀ (j : Nat) (v : Value), us[j]? = some v → γ1.F g j v) ∧ ∀ j v, γ1.F g j v → j < us.length) := by
      rcases r4 with ⟨_, rfl, hxv⟩ | ⟨e1, rfl, r4⟩
      · obtain ⟨q, hxv⟩ := hxv
        rw [hxv]
        have hnn : 0 < new.length := by
          cases new with
          | nil => exact absurd rfl hne
          | cons => simp
        refine ⟨.slice none 0 0, [], ?_, World.ownsRow_nil w 0 e k', by simp, by simp [flat], by simp [Value.ownBlock]⟩
        exact run_append_nil_any w t o.type e ie zv ht hie hzv q ⟨bl, off, none⟩ new.length c news (by rw [hnl, hsz]) hnews hnn (by simp only [List.length_nil, Nat.zero_add] at h63 hby; omega) (by rw [hbb]; simp only [List.length_nil, Nat.zero_add] at hby; omega)
      · simp only [reduceCtorEq, false_or, Option.some.injEq] at hee
        subst hee
        cases r4 with
        | own _ _ _ hO =>
          obtain ⟨us, g, q1, q2, q3, q4, q5, q6, q7, q8⟩ := hO
          rw [hke] at q1 q3
          refine ⟨a.eval x, us, rfl, q1, q3, q4, fun g' hg' => ?_⟩
          rw [q5] at hg'
          obtain rfl := Option.some.inj hg'
          exact ⟨q6, q7, q8⟩
    obtain ⟨v0, us, heq0, hO, hyl, hyr', hown⟩ := hbaseO
    obtain ⟨v', w', hrun, hO', hgr, hnil', hat⟩ := run_append_own_at (P := P) w 0 t o.type e ie zv k' b ht hie hzv hsz hbb hzs hk' v0 ys.length us hO ⟨bl, off, none⟩ new.length c news hnl hnews h1 (by simp only [maxLen]; omega) hby (Nat.zero_le _)
    have hv'n : v' ≠ .slice none 0 0 := fun e => by
      have := (hnil'.1 e).2
      exact hne (List.eq_nil_of_length_eq_zero this)
    obtain ⟨g, hg⟩ : ∃ g, v'.ownBlock = some g := by
      rcases hO'.2 with ⟨hv, _⟩ | ⟨g, _, _, hv, _⟩
      · exact absurd hv hv'n
      · exact ⟨g, by rw [hv]; rfl⟩
    have hgl := (hO'.lt g hg).2
    have hcells : ∀ (j : Nat) (v : Value), (us ++ news)[j]? = some v → w'.cell? ⟨g, j, none⟩ = some v := fun j v hv => by
      have := hO'.cells hg j v hv
      rw [add_none, Nat.zero_add] at this
      exact this
    have husF : ∀ g', v0.ownBlock = some g' → ∀ j v, γ1.F g' j v → us[j]? = some v := by
      intro g' hg' j v hv
      obtain ⟨_, p2, p3⟩ := hown g' hg'
      have hl := p3 j v hv
      have h4 := r1.bx.Fw _ _ _ (p2 j us[j] (by simp [hl]))
      have h5 := r1.bx.Fw _ _ _ hv
      rw [h4] at h5
      rw [← Option.some.inj h5]
      simp [hl]
    have hold : ∀ g', v0.ownBlock = some g' → ∀ j v, γ1.F g' j v → w'.cell? ⟨g', j, none⟩ = some v := by
      intro g' hg' j v hv
      by_cases eg : g' = g
      · subst eg
        have := husF g' hg' j v hv
        exact hcells j v (by rw [List.getElem?_append_left (List.getElem?_eq_some_iff.1 this).1]; exact this)
      · -- the row was left behind: its old block is as it was, or was written at its end
        rcases hO.2 with ⟨hvn, _⟩ | ⟨g2, cap2, cur2, hve, _, hh2, hnc2, hcm2, hcs2, htk2⟩
        · rw [hvn] at hg'; simp [Value.ownBlock] at hg'
        · have hg2 : g2 = g' := by rw [hve] at hg'; simpa [Value.ownBlock] using hg'
          subst hg2
          by_cases hroom : ys.length + new.length ≤ cap2
          · have hr2 := run_append_room (P := P) w t o.type e ie ht hie g2 ys.length cap2 cur2 hh2 ⟨bl, off, none⟩ new.length c news (by rw [hnl, hsz]) hnews h1 hroom (by rw [hnl, hcs2, hsz, ← Nat.add_mul]; exact Nat.mul_le_mul_right _ hroom)
            rw [← hve, hrun] at hr2
            simp only [Result.ok.injEq] at hr2
            rw [hr2.1] at hg
            simp only [Value.ownBlock, Option.some.injEq] at hg
            exact absurd hg eg
          · have hr2 := run_append_grow (P := P) w t o.type e ie zv ht hie hzv ⟨g2, 0, none⟩ ys.length cap2 us (by rw [hsz]; exact hO.1) (hO.cells (g := g2) (by rw [hve]; rfl)) ⟨bl, off, none⟩ new.length c news (by rw [hnl, hsz]) hnews (by omega) (by omega) (by rw [hbb]; exact growslice_fits (by omega) hby)
            rw [← hve, hrun] at hr2
            simp only [Result.ok.injEq] at hr2
            rw [hr2.2]
            have hc0 := r1.bx.Fw _ _ _ hv
            have hb2 : ∀ (oo : Obj), (w.drew.alloc oo).heap[g2]? = w.heap[g2]? := fun oo => heap_alloc_old w.drew oo g2 (lt_of_cell hc0)
            exact (World.cell?_of_block (w := w) (hb2 _)).trans hc0
    obtain ⟨γ2, s1', s2', s3', s4', s5', s6'⟩ := R.grow (P := P) r1 (w' := w') (g0 := v0.ownBlock) hgr (g := g) (by
      rcases hat with h6 | h6
      · left; rw [← h6, hg]
      · right; rw [hg] at h6; rw [Option.some.inj h6]; exact Nat.le_refl _) (fun k hk => (hown k hk).1) (vs := us ++ news) hgl hcells hold
    refine ⟨v', w', γ2, .inl (hexec (by rw [hu, heq0]; exact hrun)), r2.trans s2', s1', .own _ _ _ _ ⟨us ++ news, g, ?_, by rw [hke]; exact hk0, ?_, ?_, hg, s3', s4', fun j v hv => ?_⟩⟩
    · rw [hke, List.length_append]; exact hO'
    · rw [hke]
      intro z hz
      rcases List.mem_append.1 hz with hz | hz
      · exact hyl z hz
      · exact hlk z hz
    · intro j z hz
      rw [flat_append] at hz
      have hfy : (flat ys).length = us.length := by rw [flat_length hyl, hO.1]
      by_cases hj : j < (flat ys).length
      · rw [List.getElem?_append_left hj] at hz
        obtain ⟨p1, v, p2, p3⟩ := hyr' j z hz
        exact ⟨p1, v, by rw [List.getElem?_append_left (by rw [← hfy]; exact hj)]; exact p2, p3.mono s6'⟩
      · rw [List.getElem?_append_right (by omega)] at hz
        have hjl := (List.getElem?_eq_some_iff.1 hz).1
        refine ⟨hone _ z hz, vs (j - (flat ys).length), ?_, (hr _ z hz).mono s6'⟩
        rw [List.getElem?_append_right (by omega), ← hfy]
        simp only [news, List.getElem?_map]
        rw [List.getElem?_range (by omega)]
        rfl
    · rcases s5' j v hv with h7 | h7
      · rcases hat with h6 | h6
        · have := husF g (by rw [← h6, hg]) j v h7
          have := (List.getElem?_eq_some_iff.1 this).1
          rw [List.length_append]; omega
        · rw [hg] at h6
          have := lt_of_cell (r1.bx.Fw _ _ _ h7)
          have := Option.some.inj h6
          omega
      · exact (List.getElem?_eq_some_iff.1 h7).1
theorem R.forget (hR : R P γ a w s) (t : Nat) : R P γ a w (s.forget t) := by
  refine ⟨hR.bx, hR.sz.trans (by simp [St.forget]), fun t' ht => ?_, hR.lz, hR.dl, hR.df⟩
  have ht' : t' < s.tm.length := by simpa [St.forget] using ht
  have := hR.tm t' ht'
  simp only [St.forget, St.rd, List.getD_eq_getElem?_getD, List.getElem?_set] at this ⊢
  by_cases e : t = t'
  · subst e
    rw [if_pos rfl, if_pos ht']
    exact .sv _ _ _ (.undef _)
  · rw [if_neg e]; exact this
theorem forget_disown (s : St) (t : Nat) (h : (s.rd t).isOwn = true) : (s.disown t).forget t = s.forget t := by
  unfold St.disown
  split
  · simp [St.forget]
  · rfl
theorem op_app (hR : R P γ a w s) (hG : GlobOK E γ) {t e : TypeId} {k b : Nat} {x y : Operand} {x' y' : Opd} (ho : o.op = .call { callee := .builtin .append, args := #[x, y], argTypes := #[t, t] }) (ht : P.underlying t = some (.slice e)) (hs : sizeB P e = some (k, b)) (hz : zeroOK P e = true)
    (hx : opd x = some x') (hy : opd y = some y') (h : stepV E cf q o.dst s (.app e k b (srcOf x) x' y') = some (av, s1)) : Done P γ a w o av s1 := by
  simp only [stepV] at h
  split at h
  · unfold doAppQ at h
    split at h <;> try (simp at h; done)
    rename_i t'
    split at h <;> try (simp at h; done)
    rename_i hc
    obtain ⟨hd, hlz, hown⟩ := hc
    split at h <;> simp only [Option.some.injEq, Prod.mk.injEq, reduceCtorEq] at h
    rename_i v s2 happ
    obtain ⟨rfl, rfl⟩ := h
    obtain ⟨v', w', γ', h1, h2, h3, h4⟩ := op_app0 hR hG ho ht hs hz hx hy happ
    refine ⟨v', w', γ', h1, h2, ?_, h4⟩
    have e2 : s2 = s.disown t' := by
      unfold doApp at happ
      split at happ <;> try (simp at happ; done)
      split at happ <;> try (simp at happ; done)
      rename_i ys e' s3 hb
      have hs3 : s3 = s.disown t' := by
        unfold appBase at hb
        rw [hd, hlz] at hb
        simp only at hb
        split at hb <;> simp only [Option.some.injEq, Prod.mk.injEq, reduceCtorEq] at hb
        · exact hb.2.2.symm
        · rename_i hn
          rw [hn] at hown; simp [AV.isOwn] at hown
      split at happ <;> try (simp at happ; done)
      split at happ <;> simp only [Option.some.injEq, Prod.mk.injEq] at happ
      · rw [← happ.2]; exact hs3
      · rw [← happ.2]; exact hs3
    rw [← forget_disown s t' hown, ← e2]
    exact h3.forget t'
  · exact op_app0 hR hG ho ht hs hz hx hy h
end Go.Ev

set_option linter.unusedSimpArgs false
set_option linter.unusedVariables false
namespace Go.Ev
variable {P : Program} {E : Env} {γ : Gh} {a : Act} {w : World} {s : St} {o : Oper} {cf : CallF} {q : Bool} {s1 : St} {av : AV}
theorem op_rngS (hR : R P γ a w s) (hG : GlobOK E γ) {t : TypeId} {x : Operand} {x' : Opd} (ho : o.op = .range t x) (ht : P.underlying t = some .string) (hx : opd x = some x')
    (h : stepV E cf q o.dst s (.rngS x') = some (av, s1)) : Done P γ a w o av s1 := by
  simp only [stepV] at h
  split at h <;> try (simp at h; done)
  split at h <;> simp only [Option.some.injEq, Prod.mk.injEq, reduceCtorEq] at h
  rename_i l hl
  obtain ⟨rfl, rfl⟩ := h
  have hv := (ev_rep hR hG hx).str hl
  have hrun := run_range_string (P := P) w t ⟨l.toArray⟩ ht
  have hf := fresh_alloc hR.bx (.stringIter ⟨l.toArray⟩ 0)
  have h1 := hf.R hR
  have hnF : ∀ o v, ¬ γ.F w.heap.size o v := fun o v h => by have := lt_of_cell (hR.bx.Fw _ _ _ h); omega
  have hnβ : w.heap.size ∉ γ.β := fun h => by have := hR.bx.β_lt h; omega
  have hno : γ.ow w.heap.size = none := by
    cases h : γ.ow w.heap.size with
    | none => rfl
    | some ℓ => have := (hR.bx.ow _ _ h).1; omega
  refine ⟨_, w.alloc (.stringIter ⟨l.toArray⟩ 0), _, .inl ?_, ?_, h1.addBoxB (bb := .it l 0) hnβ hno (heap_alloc_new w _), .ptr _ _ 0 w.heap.size ?_⟩
  · simp only [execOp, ho, hv, Sem.run_bind, hrun, Result.andThen_ok]; rfl
  · have he := hf.ext
    exact ⟨he.os, he.tape, he.output, he.size, he.F, ⟨[w.heap.size], rfl, by simp⟩, he.blk, he.Fnew, he.own⟩
  · rw [List.getElem?_append_right (by rw [hR.bx.len]; omega), hR.bx.len]; simp
theorem R.setIt (hR : R P γ a w s) {i blk : Nat} {l : List UInt8} {p p' : Nat} (hi : s.bx[i]? = some (.it l p)) (hk : γ.β[i]? = some blk) :
    R P γ a (w.iterAt blk ⟨l.toArray⟩ p') { s with bx := s.bx.set i (.it l p'), lz := none } ∧ Ext γ w γ (w.iterAt blk ⟨l.toArray⟩ p') := by
  have hilt : i < s.bx.length := (List.getElem?_eq_some_iff.1 hi).1
  have hblkβ : blk ∈ γ.β := List.mem_of_getElem? hk
  have hh : w.heap[blk]? = some (.stringIter ⟨l.toArray⟩ p) := hR.bx.box i _ blk hi hk
  have hog : ∀ g ℓ, γ.ow g = some ℓ → g ≠ blk := fun g ℓ h e => (hR.bx.ow g ℓ h).2 (e ▸ hblkβ)
  have hnF : ∀ o v, ¬ γ.F blk o v := fun o v h => by
    have := hR.bx.Fw _ _ _ h
    simp [World.cell?, hh] at this
  have hoth : ∀ g, g ≠ blk → (w.iterAt blk ⟨l.toArray⟩ p').heap[g]? = w.heap[g]? := fun g hg => Lib.iterAt_other w blk g _ _ hg
  have hk1 : ∀ g ℓ, γ.ow g = some ℓ → (w.iterAt blk ⟨l.toArray⟩ p').heap[g]? = w.heap[g]? ∧ (∀ j v, γ.F g j v → γ.F g j v) ∧ γ.ow g = some ℓ := fun g ℓ h => ⟨hoth g (hog g ℓ h), fun _ _ h => h, h⟩
  refine ⟨⟨⟨by simp [hR.bx.len], ?_, hR.bx.nodup, ?_, fun b ℓ hb => ?_⟩, hR.sz, fun t' ht => (hR.tm t' ht).keep (fun _ _ _ h => h) (fun _ _ h => h) (fun g _ hg => hk1 g _ hg), by simp, hR.dl, hR.df⟩, ?_⟩
  · intro i' b' blk' hi' hk'
    rw [List.getElem?_set] at hi'
    split at hi'
    · rename_i e
      subst e
      simp only [hilt, if_true, Option.some.injEq] at hi'
      subst hi'
      have : blk' = blk := by have h := hk'.symm.trans hk; simpa using h
      subst this
      exact Lib.iterAt_heap w blk' _ p p' hh
    · rename_i e
      have hne : blk' ≠ blk := by
        intro eb
        subst eb
        have h1 := (List.getElem?_eq_some_iff.1 hk)
        have h2 := (List.getElem?_eq_some_iff.1 hk')
        exact e ((List.getElem_inj hR.bx.nodup).1 (h1.2.trans h2.2.symm))
      exact (hR.bx.box i' b' blk' hi' hk').keep (fun _ _ _ h => h) (hoth blk' hne) (fun _ _ h => h) (fun g j hg => hk1 g _ hg) (fun _ _ h => h)
  · intro b' o' v hF
    rw [World.cell?_of_block (hoth b' (fun e => hnF o' v (e ▸ hF)))]
    exact hR.bx.Fw _ _ _ hF
  · obtain ⟨k1, k2⟩ := hR.bx.ow b ℓ hb
    exact ⟨by rw [Lib.iterAt_size]; exact k1, k2⟩
  · exact ⟨rfl, rfl, rfl, by rw [Lib.iterAt_size]; exact Nat.le_refl _, fun _ _ _ h => h, ⟨[], by simp, by simp⟩, fun b hb => hoth b (fun e => hb.2.1 (e ▸ hblkβ)), fun _ _ _ _ h => h, fun b hb => hb.2.2⟩
theorem op_nextS (hR : R P γ a w s) (hG : GlobOK E γ) {x : Operand} {x' : Opd} (ho : o.op = .next x true) (hx : opd x = some x')
    (h : stepV E cf q o.dst s (.nextS x') = some (av, s1)) : Done P γ a w o av s1 := by
  have hpr := ev_rep hR hG hx
  simp only [stepV] at h
  split at h <;> try (simp at h; done)
  split at h <;> try (simp at h; done)
  rename_i i hpe
  rw [hpe] at hpr
  generalize hpv : a.eval x = pv at hpr
  cases hpr with
  | ptr _ _ blk hblk =>
  split at h <;> try (simp at h; done)
  rename_i l pos hbx
  have hh : w.heap[blk]? = some (.stringIter ⟨l.toArray⟩ pos) := hR.bx.box i _ blk hbx hblk
  have hsz : (⟨l.toArray⟩ : ByteArray).size = l.length := by simp [ByteArray.size]
  split at h
  · rename_i hn
    simp only [Option.some.injEq, Prod.mk.injEq] at h
    obtain ⟨rfl, rfl⟩ := h
    have hge : l.length ≤ pos := List.getElem?_eq_none_iff.1 hn
    have hrun := Lib.run_next_end_at (P := P) w blk ⟨l.toArray⟩ pos o.type hh (by rw [hsz]; omega)
    refine Done.sv hR (v := .tuple #[.bool false]) ?_ (.tup _ _ rfl fun j x hj => ?_)
    · simp only [execOp, ho, hpv, Sem.run_bind, hrun, Result.andThen_ok]; rfl
    · cases j with
      | zero => simp only [List.getElem?_cons_zero, Option.some.injEq] at hj; subst hj; exact .bool _
      | succ j => simp at hj
  · rename_i c hc
    split at h <;> simp only [Option.some.injEq, Prod.mk.injEq, reduceCtorEq] at h
    rename_i hlt
    obtain ⟨rfl, rfl⟩ := h
    have hpl : pos < l.length := (List.getElem?_eq_some_iff.1 hc).1
    have hget : (⟨l.toArray⟩ : ByteArray)[pos]'(by rw [hsz]; exact hpl) = c := by
      have := (List.getElem?_eq_some_iff.1 hc).2
      rw [← this]
      rfl
    have hrun := Lib.run_next_ascii_at (P := P) w blk ⟨l.toArray⟩ pos o.type hh (by rw [hsz]; exact hpl) (by rw [hget]; exact hlt)
    rw [hget] at hrun
    obtain ⟨r1, r2⟩ := hR.setIt (p' := pos + 1) hbx hblk
    refine ⟨.tuple #[.bool true, .int .i64 pos, .int .i32 c.toNat], _, γ, .inl ?_, r2, r1, .sv _ _ _ (.tup _ _ rfl fun j x hj => ?_)⟩
    · simp only [execOp, ho, hpv, Sem.run_bind, hrun, Result.andThen_ok]; rfl
    · match j with
      | 0 => simp only [List.getElem?_cons_zero, Option.some.injEq] at hj; subst hj; exact .bool _
      | 1 => simp only [List.getElem?_cons_succ, List.getElem?_cons_zero, Option.some.injEq] at hj; subst hj; exact .int _ _
      | 2 => simp only [List.getElem?_cons_succ, List.getElem?_cons_zero, Option.some.injEq] at hj; subst hj; exact .int _ _
      | j + 3 => simp at hj
end Go.Ev

set_option linter.unusedSimpArgs false
set_option linter.unusedVariables false
namespace Go.Ev
variable {P : Program} {E : Env} {γ : Gh} {a : Act} {w : World} {s : St} {o : Oper} {cf : CallF} {q : Bool} {s1 : St} {av : AV}
theorem op_movL (hR : R P γ a w s) (hG : GlobOK E γ) {t : Nat} (ho : o.op = .move (.tmp t)) (h : stepV E cf q o.dst s (.movL t) = some (av, s1)) : Done P γ a w o av s1 := by
  simp only [stepV] at h
  split at h <;> simp only [Option.some.injEq, Prod.mk.injEq, reduceCtorEq] at h
  obtain ⟨rfl, rfl⟩ := h
  exact op_mov hR hG ho (show opd (.tmp t) = some (.t t) from rfl)
theorem allSome_map {α β γ : Type} {f : α → Option β} (g : β → γ) : ∀ {l : List α} {m : List β}, allSome (l.map f) = some m → allSome (l.map fun x => (f x).map g) = some (m.map g)
  | [], m, h => by simp only [List.map_nil, allSome, Option.some.injEq] at h; subst h; rfl
  | x :: l, m, h => by
    simp only [List.map_cons] at h ⊢
    cases hx : f x with
    | none => rw [hx] at h; simp [allSome] at h
    | some y =>
      rw [hx] at h
      simp only [Option.map_some, allSome] at h ⊢
      split at h <;> simp only [Option.some.injEq, reduceCtorEq] at h
      rename_i ys hys
      subst h
      rw [allSome_map g hys]
      rfl
theorem op_struct (hR : R P γ a w s) (hG : GlobOK E γ) {t : TypeId} {parts : Array (Nat × Operand)} {z : List SV} {fs : Array Field} {l : List (Nat × Nat × Opd)}
    (ho : o.op = .build t parts) (ht : P.underlying t = some (.struct fs)) (hz : zeroSV P t = some z) (hf : fs.toList.all (fun f => (P.info? f.type).isSome) = true)
    (hl : allSome (parts.toList.map fun p => match fs[p.1]?, opd p.2 with
        | some f, some x => (P.info? f.type).map fun i => (f.offset, i.size, x)
        | _, _ => none) = some l) (h : stepV E cf q o.dst s (.build z l) = some (av, s1)) : Done P γ a w o av s1 := by
  refine op_build hR hG (d := .struct fs) (place := fun j : Nat => (fs[j]?).map fun f : Field => (f.offset, P.cellsOf f.type)) ho hz hl ?_ (build_struct ht hf) h
  intro p r hg
  split at hg <;> simp only [Option.map_eq_some_iff, reduceCtorEq] at hg
  rename_i f x hf' hx
  obtain ⟨i, hi, rfl⟩ := hg
  refine ⟨hx, ?_⟩
  simp [hf', Program.cellsOf, hi]
theorem op_array (hR : R P γ a w s) (hG : GlobOK E γ) {t e : TypeId} {n : Nat} {i : TypeInfo} {parts : Array (Nat × Operand)} {z : List SV} {l : List (Nat × Opd)}
    (ho : o.op = .build t parts) (ht : P.underlying t = some (.array n e)) (hz : zeroSV P t = some z) (hi : P.info? e = some i)
    (hl : allSome (parts.toList.map fun p => (opd p.2).map fun x => (p.1, x)) = some l) (h : stepV E cf q o.dst s (.build z (l.map fun p => (p.1 * i.size, i.size, p.2))) = some (av, s1)) : Done P γ a w o av s1 := by
  have hl' := allSome_map (fun p : Nat × Opd => (p.1 * i.size, i.size, p.2)) hl
  refine op_build hR hG (d := .array n e) (place := fun j => some (j * i.size, i.size)) ho hz hl' ?_ (build_array ht hi) h
  intro p r hg
  simp only [Option.map_map, Option.map_eq_some_iff] at hg
  obtain ⟨x, hx, rfl⟩ := hg
  exact ⟨hx, rfl⟩
theorem done_of (hR : R P γ a w s) (hG : GlobOK E γ) {ops : Array Oper} {op : AOp} (hc : cOp P ops o = some op) (hnc : ∀ f args, op ≠ .call f args) (hnd : ∀ f, op ≠ .dfr f)
    (h : stepV E cf q o.dst s op = some (av, s1)) : Done P γ a w o av s1 := by
  unfold cOp at hc
  split at hc
  · -- move
    rename_i x ho
    split at hc
    · simp only [Option.some.injEq] at hc; subst hc; exact op_movL hR hG ho h
    · simp only [Option.map_eq_some_iff] at hc; obtain ⟨y, hy, rfl⟩ := hc
      simp only [stepV, Option.some.injEq, Prod.mk.injEq] at h
      obtain ⟨rfl, rfl⟩ := h
      exact op_mov hR hG ho hy
  · rename_i x ho
    simp only [Option.map_eq_some_iff] at hc; obtain ⟨y, hy, rfl⟩ := hc
    exact op_asg hR hG ho hy h
  · rename_i c x y ho
    split at hc <;> simp only [Option.some.injEq, reduceCtorEq] at hc
    subst hc
    simp only [stepV] at h
    split at h <;> simp only [Option.some.injEq, Prod.mk.injEq, reduceCtorEq] at h
    obtain ⟨rfl, rfl⟩ := h
    exact op_pick hR hG ho (by assumption) (by assumption) (by assumption) (by assumption)
  · -- load
    rename_i t p ho
    split at hc <;> try (simp at hc; done)
    · rename_i hp hn
      split at hc <;> simp only [Option.some.injEq] at hc <;> subst hc
      · exact op_loadL hR hG ho hn hp h
      · exact op_load hR hG ho hn hp h
    · simp only [Option.some.injEq] at hc; subst hc
      exact op_load hR hG ho (by assumption) (by assumption) h
  · -- store
    rename_i t p v ho
    split at hc <;> simp only [Option.some.injEq, reduceCtorEq] at hc
    subst hc
    exact op_store hR hG ho (by assumption) (by assumption) (by assumption) h
  · rename_i t ho
    simp only [Option.map_eq_some_iff] at hc; obtain ⟨z, hz, rfl⟩ := hc
    exact op_new hR hG ho hz h
  · rename_i t x ho
    split at hc <;> simp only [Option.some.injEq, reduceCtorEq] at hc
    subst hc
    exact op_box hR hG ho (by assumption) (by assumption) h
  · -- build
    rename_i t parts ho
    split at hc <;> try (simp at hc; done)
    · split at hc <;> try (simp at hc; done)
      split at hc <;> simp only [Option.some.injEq, reduceCtorEq] at hc
      subst hc
      exact op_struct hR hG ho (by assumption) (by assumption) (by assumption) (by assumption) h
    · split at hc <;> simp only [Option.some.injEq, reduceCtorEq] at hc
      subst hc
      exact op_array hR hG ho (by assumption) (by assumption) (by assumption) (by assumption) h
  · -- buildSlice
    rename_i t n parts ho
    split at hc <;> try (simp at hc; done)
    split at hc <;> try (simp at hc; done)
    split at hc <;> simp only [Option.some.injEq, reduceCtorEq] at hc
    rename_i hcond
    subst hc
    exact op_mkSl hR hG ho (by assumption) (by assumption) (by assumption) hcond.1 hcond.2.1 hcond.2.2.1 hcond.2.2.2 h
  · -- binOp
    rename_i op' t x y t' ho
    split at hc
    · simp only [Option.some.injEq] at hc; subst hc; exact op_bin hR hG ho (by assumption) (by assumption) h
    · simp only [Option.some.injEq] at hc; subst hc; exact op_bin hR hG ho (by assumption) (by assumption) h
    · simp only [Option.some.injEq] at hc; subst hc; exact op_bin hR hG ho (by assumption) (by assumption) h
    · split at hc <;> simp only [Option.some.injEq, reduceCtorEq] at hc <;> subst hc
      · exact op_eqB hR hG (ng := false) rfl ho (by assumption) (by assumption) (by assumption) h
      · exact op_eqB hR hG (ng := true) rfl ho (by assumption) (by assumption) (by assumption) h
    · rename_i ha hb ht
      split at hc <;> try (simp at hc; done)
      rename_i k hk
      split at hc <;> simp only [Option.some.injEq, reduceCtorEq] at hc <;> subst hc
      · exact op_isNil hR hG (ng := false) rfl ht hk ho ha (.inl ⟨rfl, by assumption⟩) h
      · exact op_isNil hR hG (ng := true) rfl ht hk ho ha (.inl ⟨rfl, by assumption⟩) h
      · exact op_isNil hR hG (ng := false) rfl ht hk ho hb (.inr ⟨rfl, by assumption⟩) h
      · exact op_isNil hR hG (ng := true) rfl ht hk ho hb (.inr ⟨rfl, by assumption⟩) h
    · simp at hc
  · -- unOp
    rename_i op' t x ho
    split at hc <;> simp only [Option.some.injEq, reduceCtorEq] at hc <;> subst hc
    · exact op_not hR hG ho (by assumption) h
    · exact op_neg hR hG ho (by assumption) h
    · exact op_cpl hR hG ho (by assumption) h
  · -- convert
    rename_i t d x ho
    split at hc
    · simp only [Option.some.injEq] at hc; subst hc; exact op_i2i hR hG ho (by assumption) (by assumption) (by assumption) h
    · simp only [Option.some.injEq] at hc; subst hc; exact op_i2f hR hG ho (by assumption) (by assumption) (by assumption) h
    · simp only [Option.some.injEq] at hc; subst hc; exact op_s2s hR hG ho (by assumption) (by assumption) (by assumption) h
    · split at hc <;> try (simp at hc; done)
      split at hc <;> simp only [Option.some.injEq] at hc <;> subst hc
      · exact op_s2r hR hG ho (by assumption) (by assumption) (by assumption) (by assumption) h
      · exact op_s2b hR hG ho (by assumption) (by assumption) (by assumption) (by assumption) h
    · split at hc <;> simp only [Option.some.injEq, reduceCtorEq] at hc; subst hc; exact op_b2s hR hG ho (by assumption) (by assumption) (by assumption) (by assumption) h
    · simp at hc
  · -- makeInterface
    rename_i t x ho
    split at hc
    · simp at hc
    · rename_i a' d hd hx ht
      simp only [Option.some.injEq] at hc; subst hc
      exact op_mkI hR hG ho ht (fun ms e => hd ms e) hx h
    · simp at hc
  · rename_i f first cap ho
    split at hc <;> simp only [Option.some.injEq, reduceCtorEq] at hc
    subst hc
    exact op_mkF hR hG ho (by assumption) (by assumption) h
  · -- makeSlice
    rename_i t l c ho
    split at hc <;> try (simp at hc; done)
    rename_i e ht
    split at hc <;> try (simp at hc; done)
    rename_i k b z l' c' hs hz hl hcc
    split at hc <;> try (simp at hc; done)
    rename_i hk
    split at hc
    · split at hc <;> simp only [Option.some.injEq, reduceCtorEq] at hc
      rename_i hij; subst hij; subst hc
      exact op_mkR hR hG ho ht hs hz hk hl hcc h
    · split at hc
      · rename_i hkn
        obtain ⟨rfl, rfl⟩ := hkn
        simp only [Option.some.injEq] at hc; subst hc
        exact op_mkR hR hG ho ht hs hz hk hl hcc h
      · split at hc <;> simp only [Option.some.injEq, reduceCtorEq] at hc
        rename_i hn; subst hn; subst hc
        exact op_mkC hR hG ⟨_, ho, hl⟩ ht hs (by rw [hz]; rfl) hk hcc h
    · split at hc <;> simp only [Option.some.injEq, reduceCtorEq] at hc
      rename_i hn; subst hn; subst hc
      exact op_mkC hR hG ⟨_, ho, hl⟩ ht hs (by rw [hz]; rfl) hk hcc h
    · simp at hc
  · -- slice
    rename_i t x lo hi ho
    split at hc
    · simp only [Option.some.injEq] at hc; subst hc; exact op_subS hR hG ho (by assumption) (by assumption) (by assumption) (by assumption) h
    · simp only [Option.map_eq_some_iff] at hc; obtain ⟨i, hi', rfl⟩ := hc
      exact op_subL hR hG ho (by assumption) hi' (by assumption) (by assumption) (by assumption) h
    · simp at hc
  · -- fieldAddr
    rename_i t p f ho
    split at hc <;> try (simp at hc; done)
    split at hc <;> try (simp at hc; done)
    split at hc <;> try (simp at hc; done)
    split at hc <;> simp only [Option.some.injEq, reduceCtorEq] at hc
    subst hc
    exact op_fAddr hR hG ho (by assumption) (by assumption) (by assumption) (by assumption) (by assumption) h
  · rename_i t x f ho
    split at hc <;> try (simp at hc; done)
    split at hc <;> try (simp at hc; done)
    simp only [Option.map_eq_some_iff] at hc; obtain ⟨n, hn, rfl⟩ := hc
    exact op_fld hR hG ho (by assumption) (by assumption) hn (by assumption) h
  · rename_i t x i ho
    split at hc
    · simp only [Option.map_eq_some_iff] at hc; obtain ⟨j, hj, rfl⟩ := hc
      exact op_iAddrS hR hG ho (by assumption) hj (by assumption) (by assumption) h
    · simp only [Option.map_eq_some_iff] at hc; obtain ⟨j, hj, rfl⟩ := hc
      exact op_iAddrA hR hG ho (by assumption) hj (by assumption) (by assumption) h
    · simp at hc
  · rename_i t x i ho
    split at hc
    · simp only [Option.some.injEq] at hc; subst hc; exact op_idxS hR hG ho (by assumption) (by assumption) (by assumption) h
    · split at hc <;> simp only [Option.some.injEq, reduceCtorEq] at hc
      subst hc
      exact op_idxA hR hG ho (by assumption) (by assumption) (by assumption) (by assumption) (by assumption) h
    · simp at hc
  · rename_i x i ho
    simp only [Option.map_eq_some_iff] at hc; obtain ⟨y, hy, rfl⟩ := hc
    exact op_ext hR hG ho hy h
  · -- call
    rename_i c ho
    split at hc <;> try (simp at hc; done)
    rename_i args hargs
    split at hc
    · simp only [Option.map_eq_some_iff] at hc; obtain ⟨y, hy, rfl⟩ := hc
      exact absurd rfl (hnc _ _)
    · -- len
      rename_i hcal
      split at hc <;> try (simp at hc; done)
      rename_i x' t hct
      have hone : ∃ x, c.args.toList = [x] ∧ opd x = some x' := by
        have hl := (opds_get hargs)
        match hca : c.args.toList with
        | [] => rw [hca] at hl; simp at hl
        | [x] =>
          rw [hca] at hl
          obtain ⟨_, h2⟩ := hl
          obtain ⟨y, hy, hyo⟩ := h2 0 x' rfl
          simp only [List.getElem?_cons_zero, Option.some.injEq] at hy
          subst hy
          exact ⟨x, rfl, hyo⟩
        | x :: y :: r => rw [hca] at hl; simp at hl
      obtain ⟨x, hca, hx⟩ := hone
      split at hc <;> simp only [Option.some.injEq, reduceCtorEq] at hc <;> subst hc
      · exact op_lenS hR hG ho hcal hca hct (by assumption) hx h
      · exact op_lenL hR hG ho hcal hca hct (by assumption) hx h
    · -- append
      rename_i hcal
      split at hc <;> try (simp at hc; done)
      rename_i x' y' x y t u hca hct
      split at hc <;> try (simp at hc; done)
      rename_i e hte
      split at hc <;> try (simp at hc; done)
      rename_i htu
      obtain ⟨rfl, hz⟩ := htu
      split at hc <;> simp only [Option.some.injEq, reduceCtorEq] at hc
      rename_i k n hsz
      subst hc
      rw [hca] at hargs
      obtain ⟨_, h2⟩ := opds_get hargs
      have hx : opd x = some x' := by
        obtain ⟨z, hz, hzo⟩ := h2 0 x' rfl
        simp only [List.getElem?_cons_zero, Option.some.injEq] at hz
        subst hz; exact hzo
      have hy : opd y = some y' := by
        obtain ⟨z, hz, hzo⟩ := h2 1 y' rfl
        simp only [List.getElem?_cons_succ, List.getElem?_cons_zero, Option.some.injEq] at hz
        subst hz; exact hzo
      have hcc : c = { callee := .builtin .append, args := #[x, y], argTypes := #[t, t] } := by
        obtain ⟨c1, c2, c3⟩ := c
        simp only at hcal hca hct
        have e2 : c2 = #[x, y] := by rw [← hca]
        have e3 : c3 = #[t, t] := by rw [← hct]
        rw [hcal, e2, e3]
      rw [hcc] at ho
      exact op_app hR hG ho hte hsz hz hx hy h
    · rename_i hcal
      split at hc <;> simp only [Option.some.injEq, reduceCtorEq] at hc
      subst hc
      obtain ⟨x, y, hca, hx, hy⟩ := two_args hargs
      exact op_mm (mx := true) hR hG ho hcal hca hx hy h
    · rename_i hcal
      split at hc <;> simp only [Option.some.injEq, reduceCtorEq] at hc
      subst hc
      obtain ⟨x, y, hca, hx, hy⟩ := two_args hargs
      exact op_mm (mx := false) hR hG ho hcal hca hx hy h
    · simp at hc
  · rename_i x ho
    simp only [Option.map_eq_some_iff] at hc; obtain ⟨y, hy, rfl⟩ := hc
    exact op_nilChk hR hG ho hy h
  · rename_i c ho
    split at hc <;> try (simp at hc; done)
    simp only [Option.map_eq_some_iff] at hc; obtain ⟨y, hy, rfl⟩ := hc
    exact absurd rfl (hnd _)
  · rename_i t x ho
    split at hc <;> simp only [Option.some.injEq, reduceCtorEq] at hc
    subst hc
    exact op_rngS hR hG ho (by assumption) (by assumption) h
  · rename_i x b ho
    split at hc <;> try (simp at hc; done)
    rename_i hb
    subst hb
    simp only [Option.map_eq_some_iff] at hc; obtain ⟨y, hy, rfl⟩ := hc
    exact op_nextS hR hG ho hy h
  · simp at hc
end Go.Ev

set_option linter.unusedSimpArgs false
set_option linter.unusedVariables false
namespace Go.Ev
variable {P : Program} {E : Env} {γ : Gh} {a : Act} {w : World} {s : St} {o : Oper} {cf : CallF} {q : Bool} {s1 : St} {av : AV}
def CallOK (P : Program) (f : FuncId) (args : Array Value) (w : World) (Post : Value → World → Prop) : Prop :=
  (∃ v w', (callFunc f args).run P w = .ok (.value v) w' ∧ Post v w') ∨
  ∃ g as, (callFunc f args).run P w = .ok (.enter g as) w ∧ Calls P g as w fun e w' => ∃ v, e = .returned v ∧ Post v w'
theorem CallOK.mono {f : FuncId} {args : Array Value} {Post Post' : Value → World → Prop} (h : CallOK P f args w Post) (hp : ∀ v w', Post v w' → Post' v w') : CallOK P f args w Post' := by
  rcases h with ⟨v, w', h1, h2⟩ | ⟨g, as, h1, h2⟩
  · exact .inl ⟨v, w', h1, hp _ _ h2⟩
  · exact .inr ⟨g, as, h1, h2.mono fun e w' ⟨v, hv, hr⟩ => ⟨v, hv, hp _ _ hr⟩⟩
def GlobF (E : Env) (F : Frz) : Prop := ∀ g, RepS F (.ref (E.glob g)) (.pointer (some ⟨g, 0, none⟩))
def PureFn (P : Program) (E : Env) (f : FuncId) (F : List SV → Option AV) : Prop :=
  ∀ vs r, F vs = some r → ∀ (F0 : Frz) (w : World) (us : Array Value), GlobF E F0 → (∀ b o v, F0 b o v → w.cell? ⟨b, o, none⟩ = some v) → us.size = vs.length →
    (∀ (j : Nat) (x : SV), vs[j]? = some x → RepS F0 x (us.getD j undef)) →
    CallOK P f us w fun v w' => ∃ γ', Fresh ⟨F0, [], fun _ => none⟩ w γ' w' ∧ RepA P γ' w' .ret r v
def LookOK (P : Program) (E : Env) : Prop := ∀ f k, E.look f = some k → ∀ (b : Nat) (w : World) (u : Value), w.cell? ⟨b, k, none⟩ = some u → ∀ us : Array Value, us.size = 1 → us.getD 0 undef = .pointer (some ⟨b, 0, none⟩) →
  CallOK P f us w fun v w' => v = u ∧ w' = w
def PureOK (P : Program) (E : Env) : Prop := (∀ f F, E.pure f = some F → PureFn P E f F) ∧ LookOK P E
def CfOK (P : Program) (E : Env) (cf : CallF) : Prop :=
  ∀ f args bx r bx', cf f args bx = some (r, bx') → ∀ (γ : Gh) (w : World) (us : Array Value), GlobOK E γ → BoxesOK P γ w bx → us.size = args.length →
    (∀ (j : Nat) (x : AV), args[j]? = some x → x.isOwn = false ∧ RepA P γ w .ret x (us.getD j undef)) →
    CallOK P f us w fun v w' => ∃ γ', BoxesOK P γ' w' bx' ∧ Ext γ w γ' w' ∧ RepA P γ' w' .ret r v
def QuietOK (P : Program) (E : Env) : Prop := ∀ f, E.quiet f = true → ∀ (args : Array Value) (w : World),
  (callFunc f args).run P w = .ok (.enter f args) w ∧ CallsD P f args .returning w fun e u' w' => (∃ v, e = .returned v) ∧ u' = .returning ∧ w' = w
theorem argSV_spec {av : AV} {v : SV} (h : argSV av = some v) : av = .sv v := by
  unfold argSV at h
  split at h <;> simp only [Option.some.injEq, reduceCtorEq] at h
  rw [h]
theorem pure_call (hP : PureOK P E) (hG : GlobOK E γ) {bx : List Box} (hb : BoxesOK P γ w bx) {f : FuncId} {F : List SV → Option AV} (hf : E.pure f = some F) {args : List AV} {vs : List SV} {r : AV}
    (hvs : mapOpt argSV args = some vs) (hF : F vs = some r) {us : Array Value} (hs : us.size = args.length) (hr : ∀ (j : Nat) (x : AV), args[j]? = some x → x.isOwn = false ∧ RepA P γ w .ret x (us.getD j undef)) :
    CallOK P f us w fun v w' => ∃ γ', Fresh γ w γ' w' ∧ RepA P γ' w' .ret r v := by
  obtain ⟨l1, l2⟩ := mapOpt_spec hvs
  refine (hP.1 f F hf vs r hF γ.F w us hG hb.Fw (by rw [hs, l1]) (fun j x hx => ?_)).mono ?_
  · have hj : j < args.length := by rw [← l1]; exact (List.getElem?_eq_some_iff.1 hx).1
    obtain ⟨y, hy, hy2⟩ := l2 j args[j] (by simp [hj])
    rw [hx] at hy
    obtain rfl := Option.some.inj hy
    have h3 := (hr j args[j] (by simp [hj])).2
    rw [argSV_spec hy2] at h3
    exact h3.sv_inv
  · rintro v w' ⟨γ1, hfr, hrep⟩
    let γ' : Gh := { F := γ1.F, β := γ.β, ow := fun b => if b < w.heap.size then γ.ow b else γ1.ow b }
    have hfresh : Fresh γ w γ' w' := by
      refine ⟨hfr.os, hfr.tape, hfr.output, hfr.size, hfr.blk, hfr.F, hfr.Fold, hfr.Fw, rfl, fun b hb => by simp [γ', hb], fun b ℓ hl ho => ?_⟩
      simp only [γ'] at ho
      rw [if_neg (by omega)] at ho
      exact hfr.new b ℓ hl ho
    refine ⟨γ', hfresh, hrep.keep (fun _ _ _ h => h) (fun i b hi => ?_) (fun g _ hg => ⟨rfl, fun _ _ h => h, ?_⟩)⟩
    · rw [hfr.β] at hi; simp at hi
    · show (if g < w.heap.size then γ.ow g else γ1.ow g) = _
      by_cases hgl : g < w.heap.size
      · rw [hfr.ow g hgl] at hg; simp at hg
      · rw [if_neg hgl]; exact hg
def Gh.cellsOnly (γ : Gh) : Gh := { γ with ow := fun b => match γ.ow b with | some (.cell i j) => some (.cell i j) | _ => none }
theorem BoxesOK.cellsOnly {bx : List Box} (h : BoxesOK P γ w bx) : BoxesOK P γ.cellsOnly w bx where
  len := h.len
  box := fun i b blk hi hk => (h.box i b blk hi hk).keep (fun _ _ _ h => h) rfl (fun _ _ h => h) (fun g j hg => ⟨rfl, fun _ _ h => h, by simp [Gh.cellsOnly, hg]⟩) (fun _ _ h => h)
  nodup := h.nodup
  Fw := h.Fw
  ow := fun b ℓ ho => by
    simp only [Gh.cellsOnly] at ho
    split at ho
    · rename_i e; exact h.ow b _ e
    · simp at ho
theorem cf_call (hC : CfOK P E cf) (hG : GlobOK E γ) (hR : R P γ a w s) {f : FuncId} {args : List AV} {bx' : List Box} {r : AV} (hcf : cf f args s.bx = some (r, bx')) {us : Array Value} (hs : us.size = args.length)
    (hr : ∀ (j : Nat) (x : AV), args[j]? = some x → x.isOwn = false ∧ RepA P γ w .ret x (us.getD j undef)) :
    CallOK P f us w fun v w' => ∃ γ', R P γ' a w' { s with bx := bx', lz := none } ∧ Ext γ w γ' w' ∧ RepA P γ' w' .ret r v := by
  refine (hC f args s.bx r bx' hcf γ.cellsOnly w us hG hR.bx.cellsOnly hs (fun j x hx => ⟨(hr j x hx).1, (hr j x hx).2.keepN (hr j x hx).1 (fun _ _ _ h => h) (fun _ _ h => h)⟩)).mono ?_
  rintro v w' ⟨γ1, hb, he, hrep⟩
  let γ' : Gh := { F := γ1.F, β := γ1.β, ow := fun b => match γ.ow b with | some (.tmp t) => some (.tmp t) | _ => match γ1.ow b with | some (.tmp _) => none | x => x }
  have hF : ∀ b o v, γ.F b o v → γ'.F b o v := he.F
  have hβ : ∀ i b : Nat, γ.β[i]? = some b → γ'.β[i]? = some b := fun i b hi => by
    obtain ⟨l, hl, _⟩ := he.β
    show γ1.β[i]? = some b
    rw [hl]
    have hi' : γ.cellsOnly.β[i]? = some b := hi
    rw [List.getElem?_append_left (List.getElem?_eq_some_iff.1 hi').1]
    exact hi'
  have hfor : ∀ b t, γ.ow b = some (.tmp t) → Foreign γ.cellsOnly w b := fun b t h => ⟨(hR.bx.ow b _ h).1, (hR.bx.ow b _ h).2, by simp [Gh.cellsOnly, h]⟩
  have hot : ∀ b t, γ.ow b = some (.tmp t) → γ'.ow b = some (.tmp t) := fun b t h => by simp [γ', h]
  have hox : ∀ b ℓ, γ1.ow b = some ℓ → (∀ t, ℓ ≠ .tmp t) → γ'.ow b = some ℓ := by
    intro b ℓ h hn
    have h1 : ∀ t, γ.ow b ≠ some (.tmp t) := fun t ht => by have := he.own b (hfor b t ht); rw [h] at this; simp at this
    have hin : (match γ1.ow b with | some (.tmp _) => none | x => x) = some ℓ := by
      rw [h]
      cases ℓ with
      | tmp t => exact absurd rfl (hn t)
      | _ => rfl
    show (match γ.ow b with | some (.tmp t) => some (.tmp t) | _ => match γ1.ow b with | some (.tmp _) => none | x => x) = some ℓ
    cases hg : γ.ow b with
    | none => exact hin
    | some x =>
      cases x with
      | tmp t => exact absurd hg (h1 t)
      | _ => exact hin
  refine ⟨γ', ⟨⟨hb.len, fun i b blk hi hk => (hb.box i b blk hi hk).keep (fun _ _ _ h => h) rfl (fun _ _ h => h) (fun g j hg => ⟨rfl, fun _ _ h => h, hox g _ hg (by simp)⟩) (fun _ _ h => h), hb.nodup, hb.Fw, fun b ℓ ho => ?_⟩, hR.sz, fun t ht => ?_, by simp, hR.dl, hR.df⟩, ?_, ?_⟩
  · simp only [γ'] at ho
    split at ho
    · rename_i t ht
      obtain ⟨q1, q2⟩ := hR.bx.ow b _ ht
      refine ⟨Nat.lt_of_lt_of_le q1 he.size, fun hm => ?_⟩
      obtain ⟨l, hl, hn⟩ := he.β
      have hm' : b ∈ γ1.β := hm
      rw [hl] at hm'
      rcases List.mem_append.1 hm' with h | h
      · exact q2 h
      · have := hn b h; omega
    · split at ho
      · simp at ho
      · exact hb.ow b ℓ ho
  · exact (hR.tm t ht).keep hF hβ (fun g _ hg => ⟨he.blk g (hfor g t hg), fun o v h => he.Fnew g o v (hfor g t hg) h, hot g t hg⟩)
  · have hff : ∀ b, Foreign γ w b → Foreign γ.cellsOnly w b := fun b h => ⟨h.1, h.2.1, by simp [Gh.cellsOnly, h.2.2]⟩
    exact ⟨he.os, he.tape, he.output, he.size, he.F, he.β, fun b h => he.blk b (hff b h), fun b o v h => he.Fnew b o v (hff b h), fun b h => by simp [γ', h.2.2, he.own b (hff b h)]⟩
  · exact hrep.keep (fun _ _ _ h => h) (fun _ _ h => h) (fun g _ hg => ⟨rfl, fun _ _ h => h, hox g _ hg (by simp)⟩)
theorem cat_getD {va vb : Array Value} {l1 l2 : List AV} (h1 : va.size = l1.length) {p : AV → Value → Prop} (r1 : ∀ (j : Nat) (x : AV), l1[j]? = some x → p x (va.getD j undef)) (r2 : ∀ (j : Nat) (x : AV), l2[j]? = some x → p x (vb.getD j undef)) :
    ∀ (j : Nat) (x : AV), (l1 ++ l2)[j]? = some x → p x ((va ++ vb).getD j undef) := by
  intro j x hx
  by_cases hj : j < l1.length
  · rw [List.getElem?_append_left hj] at hx
    have := r1 j x hx
    simp only [Array.getD_eq_getD_getElem?] at this ⊢
    rw [Array.getElem?_append_left (by omega)]
    exact this
  · rw [List.getElem?_append_right (by omega)] at hx
    have := r2 _ x hx
    simp only [Array.getD_eq_getD_getElem?] at this ⊢
    rw [Array.getElem?_append_right (by omega), h1]
    exact this
theorem args_getD (hR : R P γ a w s) (hG : GlobOK E γ) {os : Array Operand} {xs : List Opd} (h : allSome (os.toList.map opd) = some xs) :
    (os.map a.eval).size = (xs.map fun x => (Opd.ev E s x).arg).length ∧ ∀ (j : Nat) (x : AV), (xs.map fun x => (Opd.ev E s x).arg)[j]? = some x → x.isOwn = false ∧ RepA P γ w .ret x ((os.map a.eval).getD j undef) := by
  refine ⟨by simp [(opds_get h).1], fun j x hx => ?_⟩
  obtain ⟨k1, o', ho', k2⟩ := args_rep hR hG h .ret j x hx
  rw [map_getD ho']
  exact ⟨k1, k2⟩
theorem run_call {c : Call} {f : Operand} (ho : o.op = .call c) (hc : c.callee = .value f) {k : FuncId} {va vb : Array Value} (hf : a.eval f = .func (.func k) va vb) {w : World} {r : Result Next} (h : (callFunc k ((va ++ c.args.map a.eval) ++ vb)).run P w = r) :
    (execOp a.eval o).run P w = r := by
  simp only [execOp, ho, resolve, hc, Deferred.ofValue, hf, Sem.run_bind, Sem.run_pure, Result.andThen_ok, invoke]
  exact h
theorem wp_call {c : Call} {f : Operand} (ho : o.op = .call c) (hc : c.callee = .value f) {k : FuncId} {va vb : Array Value} (hf : a.eval f = .func (.func k) va vb) {Post : Value → World → Prop} (h : CallOK P k ((va ++ c.args.map a.eval) ++ vb) w Post)
    {K : Act → World → Prop} {Q : Exit → Act → World → Prop} (hK : ∀ v w', Post v w' → K (a.put o.dst v) w') : o.wp P a w K Q := by
  unfold Oper.wp
  rcases h with ⟨v, w', h1, h2⟩ | ⟨g, as, h1, h2⟩
  · rw [run_call ho hc hf h1]
    exact hK v w' h2
  · rw [run_call ho hc hf h1]
    simp only [Oper.upon]
    refine h2.mono ?_
    rintro e w' ⟨v, rfl, hp⟩
    exact hK v w' hp
theorem wp_done {o : Oper} {av : AV} {s1 : St} (h : Done P γ a w o av s1) {K : Act → World → Prop} {Q : Exit → Act → World → Prop} (hK : ∀ γ' v w', Ext γ w γ' w' → R P γ' (a.put o.dst v) w' (s1.put o.dst av) → K (a.put o.dst v) w') : o.wp P a w K Q := by
  obtain ⟨v, w', γ', hr, he, hR, hv⟩ := h
  obtain ⟨γ2, k1, k2, _⟩ := hR.put hv o.dst
  unfold Oper.wp
  rcases hr with hr | ⟨hr, rfl⟩
  · rw [hr]; exact hK γ2 v w' (he.trans k2) k1
  · rw [hr]; exact hK γ2 undef w' (he.trans k2) k1
theorem R.setLz (hR : R P γ a w s) {l : Option (Nat × Loc)} (h : ∀ d ℓ, l = some (d, ℓ) → AtLoc γ a w (a.tmps.getD d undef) ℓ) : R P γ a w { s with lz := l } := ⟨hR.bx, hR.sz, hR.tm, h, hR.dl, hR.df⟩
theorem put_getD_same (a : Act) (d : Nat) (v : Value) (ht : d < a.tmps.size) : (a.put (some d) v).tmps.getD d undef = v := by
  rw [put_getD a d d v ht, if_pos rfl]
theorem cOp_call {ops : Array Oper} {f' : Opd} {args' : List Opd} (hc : cOp P ops o = some (.call f' args')) : ∃ c f, o.op = .call c ∧ c.callee = .value f ∧ opd f = some f' ∧ allSome (c.args.toList.map opd) = some args' := by
  unfold cOp at hc
  split at hc
  case h_22 c ho =>
    split at hc <;> try (simp at hc; done)
    rename_i args hargs
    split at hc
    · rename_i f hcal
      simp only [Option.map_eq_some_iff, AOp.call.injEq] at hc
      obtain ⟨g, hg, rfl, rfl⟩ := hc
      exact ⟨c, f, ho, hcal, hg, hargs⟩
    all_goals (exfalso; repeat' (split at hc)) <;> simp at hc
  all_goals (exfalso; repeat' (split at hc)) <;> simp at hc
theorem cOp_dfr {ops : Array Oper} {f' : Opd} (hc : cOp P ops o = some (.dfr f')) : ∃ c f, o.op = .defer c ∧ c.callee = .value f ∧ opd f = some f' := by
  unfold cOp at hc
  split at hc
  case h_24 c ho =>
    split at hc <;> try (simp at hc; done)
    simp only [Option.map_eq_some_iff, AOp.dfr.injEq] at hc
    obtain ⟨g, hg, rfl⟩ := hc
    exact ⟨c, _, ho, by assumption, hg⟩
  all_goals (exfalso; repeat' (split at hc)) <;> simp at hc
theorem step_ok (hP : PureOK P E) (hC : CfOK P E cf) (hR : R P γ a w s) (hG : GlobOK E γ) {ops : Array Oper} {so : SOp} (hc : cOper P ops o = some so) {s' : St} (h : stepOp E cf q so s = some s')
    {K : Act → World → Prop} {Q : Exit → Act → World → Prop} (hK : ∀ γ' a' w', Ext γ w γ' w' → R P γ' a' w' s' → K a' w') : o.wp P a w K Q := by
  simp only [cOper, Option.some.injEq] at hc
  subst hc
  simp only [stepOp] at h
  split at h <;> try (simp at h; done)
  rename_i av s1 hst
  cases hco : cOp P ops o with
  | none => rw [hco] at hst; simp [stepV] at hst
  | some op =>
  have hc := hco
  rw [hco] at hst h
  simp only [Option.getD_some] at hst h
  by_cases hcall : ∃ f args, op = .call f args
  · obtain ⟨f', args', rfl⟩ := hcall
    simp only [lazyAfter, Option.some.injEq] at h
    subst h
    have hcc := cOp_call hc
    obtain ⟨c, f, ho, hcal, hf, hargs⟩ := hcc
    simp only [stepV] at hst
    split at hst <;> try (simp at hst; done)
    rename_i k first cap htar
    split at hst <;> simp only [Option.some.injEq, Prod.mk.injEq, reduceCtorEq] at hst
    rename_i r bx hdo
    obtain ⟨rfl, rfl⟩ := hst
    obtain ⟨va, vb, hfe, hva, hvb, r1, r2⟩ := target_rep (ev_rep hR hG hf) htar
    obtain ⟨hsz, hrep⟩ := args_getD hR hG hargs
    have hall := cat_getD (p := fun x v => x.isOwn = false ∧ RepA P γ w .ret x v) (va := va ++ c.args.map a.eval) (by simp only [Array.size_append, List.length_append]; rw [hva, hsz]) (cat_getD (p := fun x v => x.isOwn = false ∧ RepA P γ w .ret x v) hva r1 hrep) r2
    have hsz2 : ((va ++ c.args.map a.eval) ++ vb).size = (first ++ (args'.map fun x => (x.ev E s).arg) ++ cap).length := by
      simp only [Array.size_append, List.length_append]; rw [hva, hsz, hvb]
    unfold doCall at hdo
    split at hdo
    · rename_i F hF
      split at hdo <;> try (simp at hdo; done)
      rename_i vs hvs
      split at hdo <;> simp only [Option.some.injEq, Prod.mk.injEq, reduceCtorEq] at hdo
      rename_i r' hr'
      obtain ⟨rfl, rfl⟩ := hdo
      refine wp_call ho hcal hfe (pure_call hP hG hR.bx hF hvs hr' hsz2 hall) ?_
      rintro v w' ⟨γ1, hfr, hv⟩
      obtain ⟨γ2, k1, k2, _⟩ := (hfr.R hR).put hv o.dst
      refine hK γ2 _ w' (hfr.ext.trans k2) ?_
      have : (if q = true then s else { s with bx := s.bx, lz := if (E.pure k).isSome then s.lz else none }) = s := by
        rw [hF]; simp
      rw [this]; exact k1
    · rename_i hpn
      split at hdo
      · rename_i hq
        unfold doLook at hdo
        split at hdo <;> try (simp at hdo; done)
        rename_i k' hk
        split at hdo <;> try (simp at hdo; done)
        rename_i i hargs'
        split at hdo <;> try (simp at hdo; done)
        rename_i cs hbi
        split at hdo <;> simp only [Option.some.injEq, Prod.mk.injEq, reduceCtorEq] at hdo
        rename_i v hcv
        obtain ⟨rfl, rfl⟩ := hdo
        have hp0 := hall 0 (.ptr i 0) (by rw [hargs']; rfl)
        rw [hargs'] at hsz2
        have hp1 := hp0.2
        generalize hgd : ((va ++ c.args.map a.eval) ++ vb).getD 0 undef = pv at hp1
        cases hp1 with
        | ptr _ _ blk hblk =>
          have hB := hR.bx.box i _ blk hbi hblk
          obtain ⟨arr, t, m, q1, ⟨q2, _⟩, q3, q4⟩ := hB
          have hkl : k' < cs.length := (List.getElem?_eq_some_iff.1 hcv).1
          have hC1 := q3 k' _ hcv
          have hcell : w.cell? ⟨blk, k', none⟩ = some (arr.getD k' undef) := by
            rw [cell_of_row w blk k' arr t m q1]
            simp [Array.getD_eq_getD_getElem?, Array.getElem?_eq_getElem (show k' < arr.size by omega)]
          refine wp_call ho hcal hfe (hP.2 k k' hk blk w _ hcell _ hsz2 hgd) ?_
          rintro v' w' ⟨rfl, rfl⟩
          obtain ⟨γ2, k1, k2, _⟩ := hR.put (RepA.sv .ret v _ hC1.2) o.dst
          refine hK γ2 _ _ k2 ?_
          rw [if_pos hq]; exact k1
      rename_i hq
      refine wp_call ho hcal hfe (cf_call hC hG hR hdo hsz2 hall) ?_
      rintro v w' ⟨γ1, h1, h2, hv⟩
      obtain ⟨γ2, k1, k2, _⟩ := h1.put hv o.dst
      refine hK γ2 _ w' (h2.trans k2) ?_
      rw [hpn]
      simpa [hq] using k1
  · by_cases hd : ∃ f, op = .dfr f
    · obtain ⟨f', rfl⟩ := hd
      simp only [lazyAfter, Option.some.injEq] at h
      subst h
      have hcc := cOp_dfr hc
      obtain ⟨c, f, ho, hcal, hf⟩ := hcc
      simp only [stepV] at hst
      split at hst <;> try (simp at hst; done)
      split at hst <;> simp only [Option.some.injEq, Prod.mk.injEq, reduceCtorEq] at hst
      rename_i k first cap htar
      obtain ⟨rfl, rfl⟩ := hst
      obtain ⟨va, vb, hfe, _⟩ := target_rep (ev_rep hR hG hf) htar
      unfold Oper.wp
      have hrun : (execOp a.eval o).run P w = .ok (.defer { target := .fn (.func k) vb, args := va ++ c.args.map a.eval }) w := by
        simp only [execOp, ho, resolve, hcal, Deferred.ofValue, hfe, Sem.run_bind, Sem.run_pure, Result.andThen_ok]
      rw [hrun]
      simp only [Oper.upon]
      have hR2 : R P γ { a with defers := { target := .fn (.func k) vb, args := va ++ c.args.map a.eval } :: a.defers } w { s with df := k :: s.df } := by
        refine ⟨hR.bx, hR.sz, hR.tm, hR.lz, by simp [hR.dl], fun i d c' hd hc' => ?_⟩
        cases i with
        | zero =>
          simp only [List.getElem?_cons_zero, Option.some.injEq] at hd hc'
          subst hd; subst hc'
          exact ⟨vb, rfl⟩
        | succ i => exact hR.df i d c' (by simpa using hd) (by simpa using hc')
      obtain ⟨γ2, k1, k2, _⟩ := hR2.put (av := .sv .undef) (v := undef) (.sv _ _ _ (.undef _)) o.dst
      exact hK γ2 _ w k2 k1
    · have hdone := done_of hR hG hc (fun f args e => hcall ⟨f, args, e⟩) (fun f e => hd ⟨f, e⟩) hst
      split at h
      · rename_i l hlaz
        simp only [Option.some.injEq] at h
        subst h
        unfold lazyAfter at hlaz
        split at hlaz
        · rename_i t
          obtain ⟨ho, d, hdst⟩ : o.op = .move (.tmp t) ∧ ∃ d, o.dst = some d := by
            constructor
            · unfold cOp at hc
              split at hc
              · rename_i x ho
                split at hc
                · simp only [Option.some.injEq, AOp.movL.injEq] at hc; subst hc; exact ho
                · simp only [Option.map_eq_some_iff, reduceCtorEq, and_false, exists_false] at hc
              all_goals (exfalso; repeat' (split at hc)) <;> simp at hc
            · simp only [stepV] at hst
              split at hst
              · exact ⟨_, by assumption⟩
              · simp at hst
          have hst' := hst
          simp only [stepV, hdst, Option.some.injEq, Prod.mk.injEq] at hst'
          obtain ⟨rfl, rfl⟩ := hst'
          unfold Oper.wp
          have hrun : (execOp a.eval o).run P w = .ok (.value (a.tmps.getD t undef)) w := by simp only [execOp, ho]; rfl
          rw [hrun]
          simp only [Oper.upon]
          have hv : RepA P γ w .ret (s.rd t).copy (a.tmps.getD t undef) := (ev_rep hR hG (show opd (.tmp t) = some (.t t) from rfl)).copy .ret
          obtain ⟨γ2, k1, k2, _⟩ := hR.put hv o.dst
          refine hK γ2 _ w k2 (k1.setLz ?_)
          intro d' ℓ hl
          simp only [hdst] at hlaz
          split at hlaz <;> simp only [Option.some.injEq] at hlaz <;> subst hlaz
          · simp at hl
          · rename_i hne
            simp only [Option.some.injEq, Prod.mk.injEq] at hl
            obtain ⟨rfl, rfl⟩ := hl
            show (a.put o.dst _).tmps.getD t undef = (a.put o.dst _).tmps.getD d undef
            rw [hdst, put_getD_ne a d t _ (by omega), put_getD_same a d _ (by rw [hR.sz]; omega)]
        · rename_i p'
          obtain ⟨t, p, ho, hn, hp⟩ : ∃ t p, o.op = .load t p ∧ aggN P t = some none ∧ opd p = some p' := by
            unfold cOp at hc
            split at hc
            case h_4 t p ho =>
              split at hc
              · split at hc
                · simp only [Option.some.injEq, AOp.loadL.injEq] at hc; subst hc; exact ⟨t, p, ho, by assumption, by assumption⟩
                · simp at hc
              · simp at hc
              · simp at hc
            all_goals (exfalso; repeat' (split at hc)) <;> simp at hc
          have hst' := hst
          simp only [stepV] at hst'
          split at hst' <;> try (simp at hst'; done)
          rename_i cs hcs
          split at hst' <;> try (simp at hst'; done)
          rename_i v hvv
          simp only [Option.some.injEq, Prod.mk.injEq] at hst'
          obtain ⟨rfl, rfl⟩ := hst'
          have hpr := ev_rep hR hG hp
          obtain ⟨b, off, vs, hu, hcc⟩ := cellsAt_rep hR.bx hpr hcs
          obtain ⟨h1, i, hi, h2⟩ := run_isAgg (P := P) (w := w) hn
          obtain ⟨x, rest, rfl, rfl⟩ : ∃ x rest, cs = x :: rest ∧ x = v := by
            simp only [takeN] at hvv
            split at hvv <;> simp only [Option.some.injEq, reduceCtorEq] at hvv
            subst hvv; exact ⟨_, _, rfl, rfl⟩
          obtain ⟨g1, g2, g3⟩ := hcc 0 x rfl
          rw [Nat.add_zero] at g2
          have hrun : (execOp a.eval o).run P w = .ok (.value (vs 0)) w := by
            simp only [execOp, ho, hu]
            simp [Instr.loadAt, Instr.sureAddr, loadVar, h1, g2]
          unfold Oper.wp
          rw [hrun]
          simp only [Oper.upon]
          obtain ⟨γ2, k1, k2, _⟩ := hR.put (av := .sv x) (v := vs 0) (.sv _ _ _ g3) o.dst
          refine hK γ2 _ w k2 (k1.setLz ?_)
          intro d' ℓ hl
          split at hlaz
          · rename_i d i' off' hdst hpe
            split at hlaz <;> simp only [Option.some.injEq] at hlaz <;> subst hlaz
            · simp at hl
            · rename_i hne
              simp only [Option.some.injEq, Prod.mk.injEq] at hl
              obtain ⟨rfl, rfl⟩ := hl
              rw [hpe] at hpr
              rw [hu] at hpr
              cases hpr with
              | ptr _ _ _ hblk =>
                obtain ⟨l', hl', _⟩ := k2.β
                refine ⟨b, ?_, ?_⟩
                · rw [hl', List.getElem?_append_left (List.getElem?_eq_some_iff.1 hblk).1]; exact hblk
                · rw [hdst, put_getD_same a d _ (by rw [hR.sz]; omega)]; exact g2
          · simp only [Option.some.injEq] at hlaz; subst hlaz; simp at hl
        · simp at hlaz
      · simp only [Option.some.injEq] at h
        subst h
        exact wp_done hdone (fun γ' v w' he hR' => hK γ' _ w' he hR')
end Go.Ev

set_option linter.unusedSimpArgs false
set_option linter.unusedVariables false
namespace Go.Ev
variable {P : Program} {E : Env} {γ : Gh} {a : Act} {w : World} {s : St} {cf : CallF} {q : Bool} {s1 : St} {av : AV}
theorem all_get {ops : Array Oper} {l : List SOp} (h : allSome (ops.toList.map (cOper P ops)) = some l) : l.length = ops.size ∧ ∀ (i : Nat) (o : Oper), ops[i]? = some o → ∃ so, l[i]? = some so ∧ cOper P ops o = some so := by
  obtain ⟨h1, h2⟩ := allSome_spec h
  have hlen : l.length = ops.size := by simpa using h1
  refine ⟨hlen, fun i o hi => ?_⟩
  have hlt : i < l.length := by rw [hlen]; exact (Array.getElem?_eq_some_iff.1 hi).1
  refine ⟨l[i], by simp [hlt], ?_⟩
  have h3 := h2 i l[i] (by simp [hlt])
  rw [List.getElem?_map, Array.getElem?_toList, hi] at h3
  simpa using h3
theorem cOper_eq {ops : Array Oper} {o : Oper} {so : SOp} (h : cOper P ops o = some so) : so.dst = o.dst ∧ so.guard = o.guard := by
  simp only [cOper, Option.some.injEq] at h
  subst h
  exact ⟨rfl, rfl⟩
theorem wants_ok (hR : R P γ a w s) {ops : Array Oper} {l : List SOp} (hl : allSome (ops.toList.map (cOper P ops)) = some l) {o : Oper} {so : SOp} (hc : cOper P ops o = some so) {b : Bool} (h : wants l s so = some b) :
    Region.wanted o (yielded ops a.tmps) = b := by
  obtain ⟨_, hg⟩ := cOper_eq hc
  unfold wants at h
  rw [hg] at h
  unfold Region.wanted
  cases hgd : o.guard with
  | none => rw [hgd] at h; simpa using h
  | some gw =>
    obtain ⟨j, want⟩ := gw
    rw [hgd] at h
    simp only at h
    split at h <;> try (simp at h; done)
    rename_i g hj
    split at h <;> try (simp at h; done)
    rename_i d hd
    have hjl : j < ops.size := by rw [← (all_get hl).1]; exact (List.getElem?_eq_some_iff.1 hj).1
    obtain ⟨so', h1, h2⟩ := (all_get hl).2 j ops[j] (by simp [hjl])
    rw [hj] at h1
    obtain rfl := Option.some.inj h1
    obtain ⟨hd', _⟩ := cOper_eq h2
    have hdst : ((ops[j]?).bind (·.dst)) = some d := by rw [Array.getElem?_eq_getElem hjl]; simp [← hd', hd]
    split at h <;> try (simp at h; done)
    rotate_left
    · rename_i hrd
      have hlt : d < s.tm.length := by
        refine Decidable.byContradiction fun hn => ?_
        simp only [St.rd, List.getD_eq_getElem?_getD] at hrd
        rw [List.getElem?_eq_none (by omega)] at hrd
        simp at hrd
      have hv := hR.tm d hlt
      rw [hrd] at hv
      have hva : a.tmps.getD d undef = undef := by
        have := hv.sv_inv
        generalize a.tmps.getD d undef = u at this
        cases this; rfl
      have hsz : d < a.tmps.size := by rw [hR.sz]; exact hlt
      have hy : yielded ops a.tmps j = none := by
        unfold yielded
        rw [hdst]
        simp only [Option.bind_some, Array.getElem?_eq_getElem hsz]
        rw [Array.getD_eq_getD_getElem?, Array.getElem?_eq_getElem hsz] at hva
        simp only [Option.getD_some] at hva
        rw [hva]
        rfl
      simp only [Option.some.injEq] at h
      simp only [hy]
      rw [← h]
      rfl
    rename_i c hrd
    have hlt : d < s.tm.length := by
      refine Decidable.byContradiction fun hn => ?_
      simp only [St.rd, List.getD_eq_getElem?_getD] at hrd
      rw [List.getElem?_eq_none (by omega)] at hrd
      simp at hrd
    have hv := hR.tm d hlt
    rw [hrd] at hv
    have hva : a.tmps.getD d undef = .bool c := by
      have := hv.sv_inv
      generalize a.tmps.getD d undef = u at this
      cases this; rfl
    have hsz : d < a.tmps.size := by rw [hR.sz]; exact hlt
    have hy : yielded ops a.tmps j = some c := by
      unfold yielded
      rw [hdst]
      simp only [Option.bind_some, Array.getElem?_eq_getElem hsz]
      rw [Array.getD_eq_getD_getElem?, Array.getElem?_eq_getElem hsz] at hva
      simp only [Option.getD_some] at hva
      rw [hva]
    simp only [Option.some.injEq] at h
    simp only [hy]
    rw [← h]
    cases c <;> cases want <;> rfl
theorem R.settle (hR : R P γ a w s) : ∃ γ', R P γ' a w s.settle ∧ Ext γ w γ' w := by
  unfold St.settle
  split
  · rename_i d u hlz
    split
    · rename_i e xs hrd
      have hat : a.tmps.getD u undef = a.tmps.getD d undef := hR.lz d (.tmp u) hlz
      obtain ⟨r1, r2⟩ := hR.disown (own_lt hrd)
      rw [hrd, hat] at r2
      obtain ⟨γ', k1, k2, _⟩ := r1.put r2 (some d)
      have hput : a.put (some d) (a.tmps.getD d undef) = a := by
        have : a.tmps.setIfInBounds d (a.tmps.getD d undef) = a.tmps := by
          apply Array.ext
          · simp
          · intro i h1 h2
            rw [Array.getElem_setIfInBounds]
            split
            · rename_i e'; subst e'; simp [Array.getD_eq_getD_getElem?, h2]
            · rfl
        simp only [Act.put, this]
      rw [hput] at k1
      exact ⟨γ', k1.noLz, (Gh.mv_ext _ _ _ _).trans k2⟩
    · exact ⟨γ, hR, Ext.refl _ _⟩
  · exact ⟨γ, hR, Ext.refl _ _⟩
theorem R.pre (hR : R P γ a w s) (q : Bool) (op : AOp) : ∃ γ', R P γ' a w (pre q op s) ∧ Ext γ w γ' w := by
  unfold Go.Ev.pre
  split
  · exact hR.settle
  · exact hR.settle
  · exact ⟨γ, hR, Ext.refl _ _⟩
theorem opRun_ok (hP : PureOK P E) (hC : CfOK P E cf) (hR : R P γ a w s) (hG : GlobOK E γ) {ops : Array Oper} {l : List SOp} (hl : allSome (ops.toList.map (cOper P ops)) = some l) {i : Nat} {so : SOp} (hi : l[i]? = some so) {s' : St} (h : opRun E cf q l so s = some s')
    {K : Act → World → Prop} {Q : Exit → Act → World → Prop} (hK : ∀ γ' a' w', Ext γ w γ' w' → R P γ' a' w' s' → K a' w') : wpOp P ops Q i K a w := by
  have hil : i < ops.size := by rw [← (all_get hl).1]; exact (List.getElem?_eq_some_iff.1 hi).1
  obtain ⟨so', h1, hc⟩ := (all_get hl).2 i ops[i] (by simp [hil])
  rw [hi] at h1
  obtain rfl := Option.some.inj h1
  obtain ⟨hdst, _⟩ := cOper_eq hc
  unfold wpOp
  rw [Array.getElem?_eq_getElem hil]
  simp only
  unfold opRun at h
  split at h
  · rename_i hw
    rw [wants_ok hR hl hc hw]
    simp only [if_true]
    obtain ⟨γ1, r1, e1⟩ := hR.pre q so.op
    exact .inl (step_ok hP hC r1 (hG.mono e1.F) hc h (fun γ' a' w' he hR' => hK γ' a' w' (e1.trans he) hR'))
  · rename_i hw
    rw [wants_ok hR hl hc hw]
    simp only [Bool.false_eq_true, if_false]
    simp only [Option.some.injEq] at h
    subst h
    obtain ⟨γ2, k1, k2, _⟩ := hR.put (av := .sv .off) (v := undef) (.sv _ _ _ .off) so.dst
    rw [hdst] at k1
    rw [hdst] at hK
    exact hK γ2 _ w k2 k1
  · simp at h
theorem drop_cons {α : Type} {l : List α} {i : Nat} {x : α} (h : l[i]? = some x) : l.drop i = x :: l.drop (i + 1) := by
  obtain ⟨h1, h2⟩ := List.getElem?_eq_some_iff.1 h
  rw [List.drop_eq_getElem_cons h1, h2]
theorem seq_ok (hP : PureOK P E) (hC : CfOK P E cf) {ops : Array Oper} {l : List SOp} (hl : allSome (ops.toList.map (cOper P ops)) = some l) {Q : Exit → Act → World → Prop} :
    ∀ (n i : Nat) (γ : Gh) (a : Act) (w : World) (s s' : St), i + n = ops.size → R P γ a w s → GlobOK E γ → runOps E cf q l (l.drop i) s = some s' → (∀ γ' a' w', Ext γ w γ' w' → R P γ' a' w' s' → Q .normal a' w') → wpOps P ops Q (List.range' i n) a w
  | 0, i, γ, a, w, s, s', hn, hR, hG, h, hQ => by
    have : l.drop i = [] := List.drop_eq_nil_of_le (by rw [(all_get hl).1]; omega)
    rw [this] at h
    simp only [runOps, Option.some.injEq] at h
    subst h
    exact hQ γ a w (Ext.refl _ _) hR
  | n + 1, i, γ, a, w, s, s', hn, hR, hG, h, hQ => by
    have hil : i < l.length := by rw [(all_get hl).1]; omega
    have hi : l[i]? = some l[i] := by simp [hil]
    rw [drop_cons hi] at h
    simp only [runOps] at h
    split at h <;> try (simp at h; done)
    rename_i s2 hs2
    rw [List.range'_succ, wpOps_cons]
    refine opRun_ok hP hC hR hG hl hi hs2 (fun γ' a' w' he hR' => ?_)
    exact seq_ok hP hC hl n (i + 1) γ' a' w' s2 s' (by omega) hR' (hG.mono he.F) h (fun γ2 a2 w2 he2 hR2 => hQ γ2 a2 w2 (he.trans he2) hR2)
theorem region_seq (hP : PureOK P E) (hC : CfOK P E cf) (hR : R P γ a w s) (hG : GlobOK E γ) {id : Nat} {ops : Array Oper} {l : List SOp} (hl : allSome (ops.toList.map (cOper P ops)) = some l) {s' : St} (h : runOps E cf q l l s = some s')
    {Q : Exit → Act → World → Prop} (hQ : ∀ γ' a' w', Ext γ w γ' w' → R P γ' a' w' s' → Q .normal a' w') : (Code.region id ops false).wp P Q a w := by
  refine wp_region ?_
  rw [List.range_eq_range']
  exact seq_ok hP hC hl ops.size 0 γ a w s s' (by omega) hR hG (by simpa using h) hQ
end Go.Ev
