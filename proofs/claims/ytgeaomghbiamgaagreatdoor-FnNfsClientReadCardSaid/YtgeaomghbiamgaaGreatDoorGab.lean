/- What stays true from step to step. -/
/- The operations that leave the world as it is. -/
/- Arithmetic, comparisons, conversions, indexes and slices: the world stays as it is. -/
/- Tests against nil, indexes, slices, fields, loads: the world stays as it is. -/
/- Addresses, fields, loads, function values: the world stays as it is. -/
import Derived.Test.YtgeaomghbiamgaaGreatDoorGaa
import Derived.Laws.Strings
import Derived.Laws.Entries
import Derived.ChangeKeysEq
import Derived.Laws.Cells
namespace Go.Ev
variable {P : Program}

theorem ownsRow_keep {w w' : World} {e k n : Nat} {u : Value} {vs : List Value} (h : w.ownsRow 0 e k u n vs) (hb : ∀ g, u.ownBlock = some g → w'.heap[g]? = w.heap[g]?) : w'.ownsRow 0 e k u n vs := by
  obtain ⟨h1, h2⟩ := h
  refine ⟨h1, ?_⟩
  rcases h2 with h2 | ⟨g, cap, cur, hv, hg, hh, r⟩
  · exact .inl h2
  · exact .inr ⟨g, cap, cur, hv, hg, by rw [hb g (by rw [hv]; rfl)]; exact hh, r⟩

theorem RepO.keep {γ γ' : Gh} {w w' : World} {ℓ ℓ' : Loc} {e : Nat} {xs : List SV} {u : Value} (h : RepO P γ w ℓ e xs u) (hF : ∀ b o v, γ.F b o v → γ'.F b o v)
    (hg : ∀ g, u.ownBlock = some g → γ.ow g = some ℓ → w'.heap[g]? = w.heap[g]? ∧ (∀ j v, γ'.F g j v → γ.F g j v) ∧ γ'.ow g = some ℓ') : RepO P γ' w' ℓ' e xs u := by
  obtain ⟨vs, g, h1, h2, h3, h4, h5, h6, h7, h8⟩ := h
  obtain ⟨k1, k2, k3⟩ := hg g h5 h6
  refine ⟨vs, g, ownsRow_keep h1 (fun g' hg' => ?_), h2, h3, fun j x hx => ?_, h5, k3, fun j v hv => hF _ _ _ (h7 j v hv), fun j v hv => h8 j v (k2 j v hv)⟩
  · have : g' = g := by rw [hg'] at h5; exact Option.some.inj h5
    subst this; exact k1
  · obtain ⟨a, v, b, c⟩ := h4 j x hx
    exact ⟨a, v, b, c.mono hF⟩

/-- What is not owned asks only for the cells that stay and the boxes' blocks, wherever it lies. -/
theorem RepA.keepN {γ γ' : Gh} {w w' : World} {ℓ ℓ' : Loc} {av : AV} {u : Value} (h : RepA P γ w ℓ av u) (hn : av.isOwn = false) (hF : ∀ b o v, γ.F b o v → γ'.F b o v)
    (hβ : ∀ i b : Nat, γ.β[i]? = some b → γ'.β[i]? = some b) (hsh : ∀ b x, γ.sh b = some x → γ'.sh b = some x := by exact fun _ _ h => h) : RepA P γ' w' ℓ' av u := by
  induction h with
  | sv v u h => exact .sv _ _ _ (h.mono hF)
  | own => simp [AV.isOwn] at hn
  | ptr i off b h => exact .ptr _ _ _ _ (hβ _ _ h)
  | mrow i n k b c h hc => exact .mrow _ _ _ _ _ _ (hβ _ _ h) hc
  | grw i n k e b c h hs hc hk hk0 => exact .grw _ _ _ _ _ _ _ (hβ _ _ h) (hsh _ _ hs) hc hk hk0
  | clo f a b va vb ha hb oa ob _ _ ia ib =>
    exact .clo _ _ _ _ _ _ ha hb oa ob (fun j x hx => ia j x hx (oa j x hx)) (fun j x hx => ib j x hx (ob j x hx))

theorem RepA.keep {γ γ' : Gh} {w w' : World} {ℓ ℓ' : Loc} {av : AV} {u : Value} (h : RepA P γ w ℓ av u) (hF : ∀ b o v, γ.F b o v → γ'.F b o v)
    (hβ : ∀ i b : Nat, γ.β[i]? = some b → γ'.β[i]? = some b)
    (hg : ∀ g, u.ownBlock = some g → γ.ow g = some ℓ → w'.heap[g]? = w.heap[g]? ∧ (∀ j v, γ'.F g j v → γ.F g j v) ∧ γ'.ow g = some ℓ') (hsh : ∀ b x, γ.sh b = some x → γ'.sh b = some x := by exact fun _ _ h => h) : RepA P γ' w' ℓ' av u := by
  cases hn : av.isOwn with
  | false => exact h.keepN hn hF hβ hsh
  | true =>
    cases h with
    | own e xs u h => exact .own _ _ _ _ (h.keep hF hg)
    | _ => simp [AV.isOwn] at hn

theorem RepC.keep {γ γ' : Gh} {w w' : World} {i j : Nat} {c : Cell} {u : Value} (h : RepC P γ w i j c u) (hF : ∀ b o v, γ.F b o v → γ'.F b o v)
    (hg : ∀ g, u.ownBlock = some g → γ.ow g = some (.cell i j) → w'.heap[g]? = w.heap[g]? ∧ (∀ j v, γ'.F g j v → γ.F g j v) ∧ γ'.ow g = some (.cell i j)) (hβ : ∀ i b : Nat, γ.β[i]? = some b → γ'.β[i]? = some b) : RepC P γ' w' i j c u := by
  cases c with
  | sv v => exact ⟨h.1, h.2.mono hF⟩
  | own e xs => exact RepO.keep h hF hg
  | lnk k o => obtain ⟨b, h1, h2⟩ := h; exact ⟨b, hβ k b h1, h2⟩
  | lrw k n e => obtain ⟨b, c, h1, h2, h3⟩ := h; exact ⟨b, c, hβ k b h1, h2, h3⟩

/-- A step that only makes new blocks, and lets cells of new blocks stay. -/
structure Fresh (γ : Gh) (w : World) (γ' : Gh) (w' : World) : Prop where
  os : w'.os = w.os
  tape : w'.tape = w.tape
  output : w'.output = w.output
  size : w.heap.size ≤ w'.heap.size
  blk : ∀ b, b < w.heap.size → w'.heap[b]? = w.heap[b]?
  F : ∀ b o v, γ.F b o v → γ'.F b o v
  Fold : ∀ b o v, b < w.heap.size → γ'.F b o v → γ.F b o v
  Fw : ∀ b o v, γ'.F b o v → w'.cell? ⟨b, o, none⟩ = some v
  β : γ'.β = γ.β
  sh : γ'.sh = γ.sh
  ow : ∀ b, b < w.heap.size → γ'.ow b = γ.ow b
  new : ∀ b ℓ, w.heap.size ≤ b → γ'.ow b = some ℓ → b < w'.heap.size ∧ ℓ = .ret

theorem Fresh.ext {γ γ' : Gh} {w w' : World} (h : Fresh γ w γ' w') : Ext γ w γ' w' where
  os := h.os
  tape := h.tape
  output := h.output
  size := h.size
  F := h.F
  β := ⟨[], by simp [h.β], by simp⟩
  blk := fun b hb => h.blk b hb.1
  Fnew := fun b o v hb => h.Fold b o v hb.1
  own := fun b hb => (h.ow b hb.1).trans hb.2.2
  sh := fun b x hx => by rw [h.sh]; exact hx

theorem lt_of_cell {w : World} {b o : Nat} {v : Value} (h : w.cell? ⟨b, o, none⟩ = some v) : b < w.heap.size := World.block_lt_of_cell? w _ h

theorem heap_lt {w : World} {b : Nat} {o : Obj} (h : w.heap[b]? = some o) : b < w.heap.size := (Array.getElem?_eq_some_iff.1 h).1

theorem RepB.blk {γ : Gh} {w : World} {i blk : Nat} {b : Box} (h : RepB P γ w i blk b) : blk < w.heap.size := by
  cases b with
  | live cs => obtain ⟨arr, t, m, h, _⟩ := h; exact heap_lt h
  | frz cs => exact h.1
  | it l p => exact heap_lt h

theorem BoxesOK.β_lt {γ : Gh} {w : World} {bx : List Box} (h : BoxesOK P γ w bx) {b : Nat} (hb : b ∈ γ.β) : b < w.heap.size := by
  obtain ⟨i, hi⟩ := List.getElem?_of_mem hb
  have hlt : i < bx.length := by have := (List.getElem?_eq_some_iff.1 hi).1; rw [h.len] at this; exact this
  exact (h.box i bx[i] b (by simp [hlt]) hi).blk

theorem RepB.keep {γ γ' : Gh} {w w' : World} {i blk : Nat} {b : Box} (h : RepB P γ w i blk b) (hF : ∀ b o v, γ.F b o v → γ'.F b o v)
    (hb : w'.heap[blk]? = w.heap[blk]?) (hn : ∀ o v, γ'.F blk o v → γ.F blk o v)
    (hg : ∀ g j, γ.ow g = some (.cell i j) → w'.heap[g]? = w.heap[g]? ∧ (∀ o v, γ'.F g o v → γ.F g o v) ∧ γ'.ow g = some (.cell i j)) (hβ : ∀ i b : Nat, γ.β[i]? = some b → γ'.β[i]? = some b) : RepB P γ' w' i blk b := by
  cases b with
  | live cs =>
    obtain ⟨arr, t, m, h1, h2, h3, h4⟩ := h
    exact ⟨arr, t, m, hb.trans h1, h2, fun j c hc => (h3 j c hc).keep hF (fun g _ k => hg g j k) hβ, fun o v hv => h4 o v (hn o v hv)⟩
  | frz cs =>
    obtain ⟨h0, arr, h2, h3⟩ := h
    refine ⟨?_, arr, h2, fun j x hx => ⟨(h3 j x hx).1, hF _ _ _ (h3 j x hx).2.1, (h3 j x hx).2.2.mono hF⟩⟩
    rw [Array.getElem?_eq_getElem h0] at hb
    exact heap_lt hb
  | it l p => exact hb.trans h

theorem Fresh.boxes {γ γ' : Gh} {w w' : World} (h : Fresh γ w γ' w') {bx : List Box} (hb : BoxesOK P γ w bx) : BoxesOK P γ' w' bx where
  len := by rw [h.β]; exact hb.len
  box := fun i b blk hi hk => by
    rw [h.β] at hk
    have hr := hb.box i b blk hi hk
    exact hr.keep h.F (h.blk _ hr.blk) (fun o v => h.Fold _ o v hr.blk) (fun g j hg => by
      have hl := (hb.ow g _ hg).1
      exact ⟨h.blk g hl, fun o v => h.Fold g o v hl, (h.ow g hl).trans hg⟩) (fun i b hi => by rw [h.β]; exact hi)
  nodup := by rw [h.β]; exact hb.nodup
  Fw := h.Fw
  ow := fun b ℓ ho => by
    by_cases hl : b < w.heap.size
    · rw [h.ow b hl] at ho
      obtain ⟨k1, k2⟩ := hb.ow b ℓ ho
      exact ⟨Nat.lt_of_lt_of_le k1 h.size, by rw [h.β]; exact k2⟩
    · refine ⟨(h.new b ℓ (by omega) ho).1, ?_⟩
      rw [h.β]
      intro hm
      exact hl (hb.β_lt hm)
  sh := fun b e c hs => by
    rw [h.sh] at hs
    obtain ⟨k1, cur, k2, k3⟩ := hb.sh b e c hs
    exact ⟨by rw [h.β]; exact k1, cur, (h.blk b (heap_lt k2)).trans k2, k3⟩

theorem Fresh.repA {γ γ' : Gh} {w w' : World} (h : Fresh γ w γ' w') {bx : List Box} (hb : BoxesOK P γ w bx) {ℓ : Loc} {av : AV} {u : Value} (ha : RepA P γ w ℓ av u) : RepA P γ' w' ℓ av u :=
  ha.keep h.F (fun i b hi => by rw [h.β]; exact hi) (fun g _ hg => by
    have hl := (hb.ow g _ hg).1
    exact ⟨h.blk g hl, fun o v => h.Fold g o v hl, (h.ow g hl).trans hg⟩) (fun b x hx => by rw [h.sh]; exact hx)

theorem Fresh.R {γ γ' : Gh} {w w' : World} (h : Fresh γ w γ' w') {a : Act} {s : St} (hr : R P γ a w s) : R P γ' a w' s where
  bx := h.boxes hr.bx
  sz := hr.sz
  tm := fun t ht => h.repA hr.bx (hr.tm t ht)
  lz := fun d ℓ hd => by
    have := hr.lz d ℓ hd
    cases ℓ with
    | tmp t => exact this
    | cell i off =>
      obtain ⟨b, hb, hc⟩ := this
      exact ⟨b, by rw [h.β]; exact hb, (World.cell?_of_block (w := w) (h.blk b (lt_of_cell hc))).trans hc⟩
    | ret => trivial
  dl := hr.dl
  df := fun i d c hd hc => by
    exact hr.df i d c hd hc

/-- Who may append is another one. -/
def Gh.mv (γ : Gh) (ℓ ℓ' : Loc) : Gh := { γ with ow := fun b => if γ.ow b = some ℓ then some ℓ' else γ.ow b }

theorem Gh.mv_ext (γ : Gh) (ℓ ℓ' : Loc) (w : World) : Ext γ w (γ.mv ℓ ℓ') w :=
  ⟨rfl, rfl, rfl, Nat.le_refl _, fun _ _ _ h => h, ⟨[], by simp [Gh.mv], by simp⟩, fun _ _ => rfl, fun _ _ _ _ h => h, fun b h => by simp [Gh.mv, h.2.2], fun _ _ h => h⟩

theorem Gh.mv_other {γ : Gh} {ℓ ℓ' ℓ'' : Loc} (h : ℓ'' ≠ ℓ) {g : Nat} (hg : γ.ow g = some ℓ'') : (γ.mv ℓ ℓ').ow g = some ℓ'' := by
  simp only [Gh.mv]
  rw [if_neg (by rw [hg]; simpa using h)]
  exact hg

theorem Gh.mv_same {γ : Gh} {ℓ ℓ' : Loc} {g : Nat} (hg : γ.ow g = some ℓ) : (γ.mv ℓ ℓ').ow g = some ℓ' := by
  simp only [Gh.mv]
  rw [if_pos hg]

theorem RepA.mv_other {γ : Gh} {w : World} {ℓ ℓ' ℓ'' : Loc} {av : AV} {u : Value} (h : RepA P γ w ℓ'' av u) (hne : ℓ'' ≠ ℓ) : RepA P (γ.mv ℓ ℓ') w ℓ'' av u :=
  h.keep (fun _ _ _ h => h) (fun _ _ h => h) (fun _ _ hg => ⟨rfl, fun _ _ h => h, Gh.mv_other hne hg⟩)

theorem RepA.mv_same {γ : Gh} {w : World} {ℓ ℓ' : Loc} {av : AV} {u : Value} (h : RepA P γ w ℓ av u) : RepA P (γ.mv ℓ ℓ') w ℓ' av u :=
  h.keep (fun _ _ _ h => h) (fun _ _ h => h) (fun _ _ hg => ⟨rfl, fun _ _ h => h, Gh.mv_same hg⟩)

theorem BoxesOK.mv {γ : Gh} {w : World} {bx : List Box} (h : BoxesOK P γ w bx) {ℓ ℓ' : Loc} (hn : ∀ i j, ℓ ≠ .cell i j) : BoxesOK P (γ.mv ℓ ℓ') w bx where
  len := h.len
  box := fun i b blk hi hk => (h.box i b blk hi hk).keep (fun _ _ _ h => h) rfl (fun _ _ h => h) (fun g j hg => ⟨rfl, fun _ _ h => h, Gh.mv_other (fun e => hn _ _ e.symm) hg⟩) (fun _ _ h => h)
  nodup := h.nodup
  Fw := h.Fw
  ow := fun b ℓ'' ho => by
    simp only [Gh.mv] at ho
    split at ho
    · rename_i e; exact h.ow b _ e
    · exact h.ow b _ ho
  sh := h.sh

theorem rd_set (s : St) (d t : Nat) (v : AV) (ht : t < s.tm.length) : (s.set d v).rd t = if t = d then v else s.rd t := by
  simp only [St.rd, St.set, List.getD_eq_getElem?_getD, List.getElem?_set]
  by_cases h : t = d
  · subst h; simp [ht]
  · rw [if_neg (fun e => h e.symm), if_neg h]

theorem put_getD (a : Act) (d t : Nat) (v : Value) (ht : t < a.tmps.size) : (a.put (some d) v).tmps.getD t undef = if t = d then v else a.tmps.getD t undef := by
  simp only [Act.put, Array.getD_eq_getD_getElem?, Array.getElem?_setIfInBounds]
  by_cases h : t = d
  · subst h; simp [ht]
  · rw [if_neg (fun e => h e.symm), if_neg h]

theorem put_getD_ne (a : Act) (d t : Nat) (v : Value) (h : t ≠ d) : (a.put (some d) v).tmps.getD t undef = a.tmps.getD t undef := by
  simp only [Act.put, Array.getD_eq_getD_getElem?, Array.getElem?_setIfInBounds]
  rw [if_neg (fun e => h e.symm)]

/-- A value comes into a temporary. -/
theorem R.put {γ : Gh} {a : Act} {w : World} {s : St} (h : R P γ a w s) {av : AV} {v : Value} (hv : RepA P γ w .ret av v) (dst : Option Nat) :
    ∃ γ', R P γ' (a.put dst v) w (s.put dst av) ∧ Ext γ w γ' w ∧ γ'.F = γ.F := by
  cases dst with
  | none => exact ⟨γ, h, Ext.refl _ _, rfl⟩
  | some d =>
    refine ⟨γ.mv .ret (.tmp d), ?_, Gh.mv_ext _ _ _ _, rfl⟩
    refine ⟨h.bx.mv (by simp), ?_, ?_, ?_, h.dl, ?_⟩
    · simp [Act.put, St.put, St.set, h.sz]
    · intro t ht
      have ht' : t < s.tm.length := by simpa [St.put, St.set] using ht
      rw [St.put, rd_set s d t av ht', put_getD a d t v (by rw [h.sz]; exact ht')]
      by_cases e : t = d
      · subst e; simp only [if_true]; exact hv.mv_same
      · simp only [if_neg e]; exact (h.tm t ht').mv_other (by simp)
    · intro d' ℓ hl
      have hl' : clearTmp d s.lz = some (d', ℓ) := hl
      unfold clearTmp at hl'
      cases hz : s.lz with
      | none => rw [hz] at hl'; simp at hl'
      | some p =>
        obtain ⟨d0, ℓ0⟩ := p
        rw [hz] at hl'
        simp only at hl'
        have hne : d0 ≠ d := by intro e; rw [if_pos e] at hl'; simp at hl'
        rw [if_neg hne] at hl'
        have hold := h.lz d0 ℓ0 hz
        cases ℓ0 with
        | tmp t =>
          simp only at hl'
          have hnt : t ≠ d := by intro e; rw [if_pos e] at hl'; simp at hl'
          rw [if_neg hnt] at hl'
          simp only [Option.some.injEq, Prod.mk.injEq] at hl'
          obtain ⟨rfl, rfl⟩ := hl'
          show (a.put (some d) v).tmps.getD t undef = _
          rw [put_getD_ne a d t v hnt, put_getD_ne a d d0 v hne]
          exact hold
        | cell i off =>
          simp only [Option.some.injEq, Prod.mk.injEq] at hl'
          obtain ⟨rfl, rfl⟩ := hl'
          rw [put_getD_ne a d d0 v hne]
          exact hold
        | ret =>
          simp only [Option.some.injEq, Prod.mk.injEq] at hl'
          obtain ⟨rfl, rfl⟩ := hl'
          trivial
    · intro i d' c hd hc
      exact h.df i d' c hd hc

end Go.Ev

namespace Go.Ev
variable {P : Program} {E : Env} {γ : Gh} {a : Act} {w : World} {s : St}

def GlobOK (E : Env) (γ : Gh) : Prop := ∀ g, RepS γ.F (.ref (E.glob g)) (.pointer (some ⟨g, 0, none⟩))

theorem constSV_rep {F : Frz} {v : Value} {x : SV} (h : constSV v = some x) : RepS F x v := by
  unfold constSV at h
  split at h <;> simp only [Option.some.injEq, reduceCtorEq] at h <;> subst h <;> first | exact .bool _ | exact .int _ _ | exact .flt _ _ | exact .nilP | exact .nilS | exact .nilI | exact .nilF | skip
  rename_i b
  have : b = ⟨b.data.toList.toArray⟩ := by simp
  rw [show (Value.string b) = .string ⟨b.data.toList.toArray⟩ from by simp]
  exact .str _

def locOf : Opd → Loc
  | .t n => .tmp n
  | _ => .ret

theorem ev_rep (hR : R P γ a w s) (hG : GlobOK E γ) {o : Operand} {x : Opd} (h : opd o = some x) : RepA P γ w (locOf x) (x.ev E s) (a.eval o) := by
  cases o with
  | tmp t =>
    simp only [opd, Option.some.injEq] at h; subst h
    simp only [Opd.ev, locOf, Act.eval]
    by_cases ht : t < s.tm.length
    · exact hR.tm t ht
    · have : s.rd t = .sv .undef := by
        simp only [St.rd, List.getD_eq_getElem?_getD]
        rw [List.getElem?_eq_none (Nat.le_of_not_lt ht)]; rfl
      rw [this]; exact .sv _ _ _ (.undef _)
  | const v =>
    simp only [opd, Option.map_eq_some_iff] at h
    obtain ⟨y, hy, rfl⟩ := h
    exact .sv _ _ _ (constSV_rep hy)
  | global g =>
    simp only [opd, Option.some.injEq] at h; subst h
    exact .sv _ _ _ (hG g)
  | func f =>
    simp only [opd, Option.some.injEq] at h; subst h
    exact .sv _ _ _ (.fn f [] [] #[] #[] rfl rfl (by simp) (by simp))

section inv
variable {ℓ : Loc} {av : AV} {u : Value}

theorem RepA.sv_inv {v : SV} (h : RepA P γ w ℓ (.sv v) u) : RepS γ.F v u := by cases h; assumption

theorem RepS.tup_inv {F : Frz} {l : List SV} (h : RepS F (.tup l) u) : ∃ vs : Array Value, u = .tuple vs ∧ vs.size = l.length ∧ ∀ (j : Nat) (x : SV), l[j]? = some x → RepS F x (vs.getD j Go.undef) := by
  cases h with | tup _ vs hs hr => exact ⟨vs, rfl, hs, hr⟩

theorem RepS.agg_inv {F : Frz} {l : List SV} (h : RepS F (.agg l) u) : ∃ vs : Array Value, u = .agg vs ∧ vs.size = l.length ∧ (∀ (j : Nat) (x : SV), l[j]? = some x → x.one = true) ∧ ∀ (j : Nat) (x : SV), l[j]? = some x → RepS F x (vs.getD j Go.undef) := by
  cases h with | agg _ vs hs ho hr => exact ⟨vs, rfl, hs, ho, hr⟩

theorem RepS.ref_inv {F : Frz} {cs : List SV} (h : RepS F (.ref cs) u) : ∃ (b o : Nat) (vs : Nat → Value), u = .pointer (some ⟨b, o, none⟩) ∧ (∀ j, j < cs.length → F b (o + j) (vs j)) ∧ (∀ (j : Nat) (x : SV), cs[j]? = some x → x.one = true) ∧ ∀ (j : Nat) (x : SV), cs[j]? = some x → RepS F x (vs j) := by
  cases h with | ref _ b o vs hF ho hr => exact ⟨b, o, vs, rfl, hF, ho, hr⟩

/-- A slice: empty, or in a block whose cells stay. -/
theorem RepS.sl_inv {F : Frz} {xs : List SV} (h : RepS F (.sl xs) u) : (xs = [] ∧ ∃ a c, u = .slice a 0 c) ∨
    ∃ (b o c k : Nat) (vs : Nat → Value), u = .slice (some ⟨b, o, none⟩) xs.length c ∧ 0 < k ∧ xs ≠ [] ∧ xs.length ≤ c ∧ (∀ x ∈ xs, x.cells.length = k) ∧ (∀ j, j < xs.length * k → F b (o + j) (vs j)) ∧
      (∀ (j : Nat) (x : SV), (flat xs)[j]? = some x → x.one = true) ∧ ∀ (j : Nat) (x : SV), (flat xs)[j]? = some x → RepS F x (vs j) := by
  cases h with
  | slE a c => exact .inl ⟨rfl, a, c, rfl⟩
  | sl _ b o c k vs hk hne hc hl hF ho hr => exact .inr ⟨b, o, c, k, vs, rfl, hk, hne, hc, hl, hF, ho, hr⟩

theorem RepA.int (h : RepA P γ w ℓ av u) {k : IntKind} {n : Int} (e : av.int? = some (k, n)) : u = .int k n := by
  unfold AV.int? at e
  split at e <;> simp only [Option.some.injEq, Prod.mk.injEq, reduceCtorEq] at e
  obtain ⟨rfl, rfl⟩ := e
  cases h.sv_inv; rfl

theorem RepA.str (h : RepA P γ w ℓ av u) {l : List UInt8} (e : av.str? = some l) : u = .string ⟨l.toArray⟩ := by
  unfold AV.str? at e
  split at e <;> simp only [Option.some.injEq, reduceCtorEq] at e
  subst e
  cases h.sv_inv; rfl

theorem RepA.bool (h : RepA P γ w ℓ av u) {b : Bool} (e : av.bool? = some b) : u = .bool b := by
  unfold AV.bool? at e
  split at e <;> simp only [Option.some.injEq, reduceCtorEq] at e
  subst e
  cases h.sv_inv; rfl

theorem RepA.sv? (h : RepA P γ w ℓ av u) {v : SV} (e : av.sv? = some v) : RepS γ.F v u := by
  unfold AV.sv? at e
  split at e <;> simp only [Option.some.injEq, reduceCtorEq] at e
  subst e
  exact h.sv_inv

theorem RepO.rep {e : Nat} {xs : List SV} (h : RepO P γ w ℓ e xs u) : RepS γ.F (.sl xs) u := by
  obtain ⟨vs, g, h1, h2, h3, h4, h5, h6, h7, h8⟩ := h
  rcases h1.2 with ⟨rfl, _⟩ | ⟨g', cap, cur, rfl, _, _, hc, _⟩
  · simp [Value.ownBlock] at h5
  · have : g' = g := by simpa [Value.ownBlock] using h5
    subst this
    by_cases hx : xs = []
    · subst hx; exact .slE _ _
    · refine .sl xs g' 0 cap (P.cellsOf e) (fun j => vs.getD j undef) h2 hx hc h3 (fun j hj => ?_) (fun j x hx => (h4 j x hx).1) (fun j x hx => ?_)
      · have hl : j < vs.length := by rw [h1.1]; exact hj
        rw [Nat.zero_add]
        have := h7 j vs[j] (by simp [hl])
        simpa [List.getD_eq_getElem?_getD, hl] using this
      · obtain ⟨_, v, hv, hr⟩ := h4 j x hx
        simpa [List.getD_eq_getElem?_getD, hv] using hr

theorem RepA.elems (h : RepA P γ w ℓ av u) {xs : List SV} (e : av.elems = some xs) : RepS γ.F (.sl xs) u := by
  unfold AV.elems at e
  split at e <;> simp only [Option.some.injEq, reduceCtorEq] at e <;> subst e
  · exact h.sv_inv
  · cases h.sv_inv; exact .slE _ _
  · cases h.sv_inv; exact .slE _ _
  · cases h with | own _ _ _ h => exact h.rep

theorem RepA.copy (h : RepA P γ w ℓ av u) (ℓ' : Loc) : RepA P γ w ℓ' av.copy u := by
  cases hn : av.isOwn with
  | true =>
    cases h with
    | own e xs u h => exact .sv _ _ _ h.rep
    | _ => simp [AV.isOwn] at hn
  | false =>
    have : av.copy = av := by cases av <;> first | rfl | simp [AV.isOwn] at hn
    rw [this]
    exact h.keepN hn (fun _ _ _ h => h) (fun _ _ h => h)

theorem AV.copy_notOwn (av : AV) : av.copy.isOwn = false := by cases av <;> rfl

theorem RepA.arg (h : RepA P γ w ℓ av u) (ℓ' : Loc) : RepA P γ w ℓ' av.arg u ∧ av.arg.isOwn = false := by
  cases h with
  | sv v u h => exact ⟨.sv _ _ _ h.can, rfl⟩
  | own e xs u h => exact ⟨.sv _ _ _ h.rep, rfl⟩
  | ptr i off b h => exact ⟨.ptr _ _ _ _ h, rfl⟩
  | mrow i n k b c h hc => exact ⟨.mrow _ _ _ _ _ _ h hc, rfl⟩
  | grw i n k e b c h hs hc hk hk0 => exact ⟨.grw _ _ _ _ _ _ _ h hs hc hk hk0, rfl⟩
  | clo f a b va vb ha hb oa ob ra rb => exact ⟨(RepA.clo _ f a b va vb ha hb oa ob ra rb).keepN rfl (fun _ _ _ h => h) (fun _ _ h => h), rfl⟩

end inv

/-- What an operation comes to. -/
def Done (P : Program) (γ : Gh) (a : Act) (w : World) (o : Oper) (av : AV) (s1 : St) : Prop :=
  ∃ v w' γ', ((execOp a.eval o).run P w = .ok (.value v) w' ∨ (execOp a.eval o).run P w = .ok .skip w' ∧ v = undef) ∧ Ext γ w γ' w' ∧ R P γ' a w' s1 ∧ RepA P γ' w' .ret av v

theorem Done.same (hR : R P γ a w s) {o : Oper} {v : Value} (hrun : (execOp a.eval o).run P w = .ok (.value v) w) {ℓ : Loc} {av : AV} (hv : RepA P γ w ℓ av v) (hn : av.isOwn = false) : Done P γ a w o av s :=
  ⟨v, w, γ, .inl hrun, Ext.refl _ _, hR, hv.keepN hn (fun _ _ _ h => h) (fun _ _ h => h)⟩

theorem Done.sv (hR : R P γ a w s) {o : Oper} {v : Value} {x : SV} (hrun : (execOp a.eval o).run P w = .ok (.value v) w) (hv : RepS γ.F x v) : Done P γ a w o (.sv x) s :=
  Done.same hR hrun (ℓ := .ret) (.sv _ _ _ hv) rfl

section ops
variable {o : Oper} {cf : CallF} {q : Bool} {s1 : St} {av : AV}

theorem op_mov (hR : R P γ a w s) (hG : GlobOK E γ) {x : Operand} {y : Opd} (ho : o.op = .move x) (hx : opd x = some y) : Done P γ a w o (y.ev E s).copy s :=
  Done.same hR (v := a.eval x) (by simp only [execOp, ho]; rfl) ((ev_rep hR hG hx).copy .ret) (AV.copy_notOwn _)

theorem op_pick (hR : R P γ a w s) (hG : GlobOK E γ) {c x y : Operand} {c' x' y' : Opd} (ho : o.op = .pick c x y) (hc : opd c = some c') (hx : opd x = some x') (hy : opd y = some y')
    {t : Bool} (ht : (c'.ev E s).bool? = some t) : Done P γ a w o (if t then (x'.ev E s).copy else (y'.ev E s).copy) s := by
  have h1 := (ev_rep hR hG hc).bool ht
  refine Done.same hR (v := if t then a.eval x else a.eval y) (ℓ := .ret) ?_ ?_ ?_
  · simp only [execOp, ho, h1, asBool]; rfl
  · cases t
    · exact (ev_rep hR hG hy).copy .ret
    · exact (ev_rep hR hG hx).copy .ret
  · cases t <;> exact AV.copy_notOwn _

/-- What a temporary owned is handed on. -/
theorem R.disown (hR : R P γ a w s) {t : Nat} (ht : t < s.tm.length) : R P (γ.mv (.tmp t) .ret) a w (s.disown t) ∧ RepA P (γ.mv (.tmp t) .ret) w .ret (s.rd t) (a.tmps.getD t undef) := by
  have hv := hR.tm t ht
  refine ⟨?_, hv.mv_same⟩
  have hlen : (s.disown t).tm.length = s.tm.length := by unfold St.disown; split <;> simp
  refine ⟨?_, by rw [hlen]; exact hR.sz, ?_, ?_, ?_, ?_⟩
  · have : (s.disown t).bx = s.bx := by unfold St.disown; split <;> rfl
    rw [this]; exact hR.bx.mv (by simp)
  · intro t' ht'
    rw [hlen] at ht'
    by_cases e : t' = t
    · subst e
      unfold St.disown
      split
      · rename_i e' xs hown
        simp only [St.rd, List.getD_eq_getElem?_getD, List.getElem?_set, ht', if_true, Option.getD_some]
        rw [hown] at hv
        cases hv with | own _ _ _ h => exact .sv _ _ _ (show RepS γ.F _ _ from RepO.rep h)
      · rename_i hno
        refine hv.keepN ?_ (fun _ _ _ h => h) (fun _ _ h => h)
        cases hx : s.rd t' with
        | own e xs => exact absurd hx (hno e xs)
        | _ => rfl
    · have : (s.disown t).rd t' = s.rd t' := by
        unfold St.disown
        split
        · simp only [St.rd, List.getD_eq_getElem?_getD, List.getElem?_set]
          rw [if_neg (fun h => e h.symm)]
        · rfl
      rw [this]
      exact (hR.tm t' ht').mv_other (by simpa using e)
  · have : (s.disown t).lz = s.lz := by unfold St.disown; split <;> rfl
    rw [this]
    intro d ℓ hd
    have := hR.lz d ℓ hd
    cases ℓ <;> exact this
  · have : (s.disown t).df = s.df := by unfold St.disown; split <;> rfl
    rw [this]; exact hR.dl
  · have : (s.disown t).df = s.df := by unfold St.disown; split <;> rfl
    rw [this]
    intro i d c hd hc
    exact hR.df i d c hd hc

theorem op_asg (hR : R P γ a w s) (hG : GlobOK E γ) {x : Operand} {y : Opd} (ho : o.op = .assign x) (hx : opd x = some y) (h : stepV E cf q o.dst s (.asg y) = some (av, s1)) : Done P γ a w o av s1 := by
  have hrun : (execOp a.eval o).run P w = .ok (.value (a.eval x)) w := by simp only [execOp, ho]; rfl
  have hv := ev_rep hR hG hx
  simp only [stepV] at h
  split at h
  · rename_i e xs hown
    split at h
    · simp at h
    simp only [Option.some.injEq, Prod.mk.injEq] at h
    obtain ⟨rfl, rfl⟩ := h
    cases y with
    | t n =>
      have hn : n < s.tm.length := by
        refine Decidable.byContradiction fun hn => ?_
        simp only [Opd.ev, St.rd, List.getD_eq_getElem?_getD] at hown
        rw [List.getElem?_eq_none (by omega)] at hown
        simp at hown
      obtain ⟨h1, h2⟩ := hR.disown hn
      cases x with
      | tmp t =>
        simp only [opd, Option.some.injEq, Opd.t.injEq] at hx
        subst hx
        simp only [Opd.ev] at hown
        rw [hown] at h2
        exact ⟨_, w, _, .inl hrun, Gh.mv_ext _ _ _ _, h1, h2⟩
      | const v => simp only [opd, Option.map_eq_some_iff] at hx; obtain ⟨_, _, h⟩ := hx; simp at h
      | global g => simp [opd] at hx
      | func f => simp [opd] at hx
    | c v => simp [Opd.ev] at hown
    | g n => simp [Opd.ev] at hown
  · rename_i hno
    simp only [Option.some.injEq, Prod.mk.injEq] at h
    obtain ⟨rfl, rfl⟩ := h
    refine Done.same hR hrun hv ?_
    cases hx : y.ev E s with
    | own e xs => exact absurd hx (hno e xs)
    | _ => rfl

theorem op_ext (hR : R P γ a w s) (hG : GlobOK E γ) {x : Operand} {y : Opd} {i : Nat} (ho : o.op = .extract x i) (hx : opd x = some y) (h : stepV E cf q o.dst s (.ext y i) = some (av, s1)) : Done P γ a w o av s1 := by
  have hv := ev_rep hR hG hx
  simp only [stepV] at h
  split at h
  · rename_i vs hy
    split at h
    · rename_i v hvi
      simp only [Option.some.injEq, Prod.mk.injEq] at h
      obtain ⟨rfl, rfl⟩ := h
      rw [hy] at hv
      obtain ⟨us, he, hs, hr⟩ := hv.sv_inv.tup_inv
      have hlt : i < us.size := by rw [hs]; exact (List.getElem?_eq_some_iff.1 hvi).1
      have := hr i v hvi
      simp only [Array.getD_eq_getD_getElem?, Array.getElem?_eq_getElem hlt, Option.getD_some] at this
      refine Done.sv hR ?_ this
      simp only [execOp, ho, he]
      simp [Instr.extract, Array.getElem?_eq_getElem hlt]
    · simp at h
  · simp at h

end ops
end Go.Ev

namespace Go.Ev
variable {P : Program} {E : Env} {γ : Gh} {a : Act} {w : World} {s : St} {o : Oper} {cf : CallF} {q : Bool} {s1 : St} {av : AV}

theorem guard_int (op : BinOp) (t : TypeId) (x y : Operand) (k k' : IntKind) (m n : Int) : (eqGuard op t x y (.int k m) (.int k' n)).run P w = .ok () w := by
  unfold eqGuard
  cases op <;> simp
theorem guard_flt (op : BinOp) (t : TypeId) (x y : Operand) (k k' : FloatKind) (m n : Nat) : (eqGuard op t x y (.float k m) (.float k' n)).run P w = .ok () w := by
  unfold eqGuard
  cases op <;> simp
theorem guard_str (op : BinOp) (t : TypeId) (x y : Operand) (m n : ByteArray) : (eqGuard op t x y (.string m) (.string n)).run P w = .ok () w := by
  unfold eqGuard
  cases op <;> simp
theorem guard_bool (op : BinOp) (t : TypeId) (x y : Operand) (m n : Bool) : (eqGuard op t x y (.bool m) (.bool n)).run P w = .ok () w := by
  unfold eqGuard
  cases op <;> simp

theorem bin_int {op : BinOp} {t : TypeId} {k k' : IntKind} {m n : Int} {r : SV} (h : binSV op (.int k m) (.int k' n) = some r) :
    ∃ z, (binOp op t (.int k m) (.int k' n)).run P w = .ok z w ∧ RepS γ.F r z := by
  cases op
  case shl =>
    simp only [binSV] at h
    split at h
    · simp at h
    · simp only [Option.some.injEq] at h; subst h
      refine ⟨_, ?_, .int _ _⟩
      simp [binOp, Op.shift, *]
  case shr =>
    simp only [binSV] at h
    split at h
    · simp at h
    · simp only [Option.some.injEq] at h; subst h
      refine ⟨_, ?_, .int _ _⟩
      simp [binOp, Op.shift, *]
  all_goals
    simp only [binSV] at h
    by_cases hk : k = k'
    · subst hk
      simp only [if_true] at h
      first
        | (simp only [Option.some.injEq] at h; subst h
           exact ⟨_, by first | (simp only [binOp, Op.intArith, ne_eq, not_true_eq_false, if_false]; rfl) | (simp only [binOp, Op.intCmp, ne_eq, not_true_eq_false, if_false]; rfl) | (simp only [binOp, Op.intBits, ne_eq, not_true_eq_false, if_false]; rfl), by first | exact .int _ _ | exact .bool _⟩)
        | (split at h
           · simp at h
           · simp only [Option.some.injEq] at h; subst h
             exact ⟨_, by simp [binOp, Op.intDiv, *]; try rfl, .int _ _⟩)
    · rw [if_neg hk] at h; simp at h

theorem bin_str {op : BinOp} {t : TypeId} {m n : List UInt8} {r : SV} (h : binSV op (.str m) (.str n) = some r) :
    ∃ z, (binOp op t (.string ⟨m.toArray⟩) (.string ⟨n.toArray⟩)).run P w = .ok z w ∧ RepS γ.F r z := by
  cases op <;> simp only [binSV, reduceCtorEq] at h
  case add =>
    split at h
    · rename_i hl
      simp only [Option.some.injEq] at h; subst h
      refine ⟨.string ⟨(m ++ n).toArray⟩, ?_, .str _⟩
      have hs : ¬ ((((⟨m.toArray⟩ : ByteArray).size + (⟨n.toArray⟩ : ByteArray).size : Nat) : Int) > IntKind.i64.max) := by
        simp only [ByteArray.size, List.size_toArray, IntKind.max, IntKind.signed, IntKind.bits, if_true]
        omega
      have ha : (⟨m.toArray⟩ : ByteArray) ++ (⟨n.toArray⟩ : ByteArray) = ⟨(m ++ n).toArray⟩ := by
        apply ByteArray.ext
        simp
      simp only [binOp_string_add, Op.stringOp, hs, if_false, ha]
      rfl
    · simp at h
  all_goals
    simp only [Option.some.injEq] at h; subst h
    exact ⟨_, by simp [binOp, Op.stringOp]; try rfl, .bool _⟩

theorem bin_flt {op : BinOp} {t : TypeId} {k k' : FloatKind} {m n : Nat} {r : SV} (h : binSV op (.flt k m) (.flt k' n) = some r) :
    ∃ z, (binOp op t (.float k m) (.float k' n)).run P w = .ok z w ∧ RepS γ.F r z := by
  simp only [binSV] at h
  by_cases hk : k = k'
  · subst hk
    simp only [if_true] at h
    cases op <;> simp only [reduceCtorEq, Option.some.injEq] at h
    case add => obtain ⟨x, hx, rfl⟩ := Option.map_eq_some_iff.1 h; exact ⟨_, by simp [binOp, Op.floatArith, hx], .flt _ _⟩
    case sub => obtain ⟨x, hx, rfl⟩ := Option.map_eq_some_iff.1 h; exact ⟨_, by simp [binOp, Op.floatArith, hx], .flt _ _⟩
    case mul => obtain ⟨x, hx, rfl⟩ := Option.map_eq_some_iff.1 h; exact ⟨_, by simp [binOp, Op.floatArith, hx], .flt _ _⟩
    case quo => obtain ⟨x, hx, rfl⟩ := Option.map_eq_some_iff.1 h; exact ⟨_, by simp [binOp, Op.floatArith, hx], .flt _ _⟩
    all_goals
      subst h
      exact ⟨_, by simp [binOp, Op.floatCmp]; try rfl, .bool _⟩
  · rw [if_neg hk] at h; simp at h

theorem op_bin (hR : R P γ a w s) (hG : GlobOK E γ) {op : BinOp} {t t' : TypeId} {x y : Operand} {x' y' : Opd} (ho : o.op = .binOp op t x y t') (hx : opd x = some x') (hy : opd y = some y')
    (h : stepV E cf q o.dst s (.bin op x' y') = some (av, s1)) : Done P γ a w o av s1 := by
  simp only [stepV] at h
  split at h
  · rename_i u v hu hv
    split at h
    · rename_i r hr
      simp only [Option.some.injEq, Prod.mk.injEq] at h
      obtain ⟨rfl, rfl⟩ := h
      have h1 := (ev_rep hR hG hx).sv? hu
      have h2 := (ev_rep hR hG hy).sv? hv
      have key : ∃ z, (do eqGuard op t x y (a.eval x) (a.eval y); binOp op t (a.eval x) (a.eval y) : Sem Value).run P w = .ok z w ∧ RepS γ.F r z := by
        generalize a.eval x = X at *
        generalize a.eval y = Y at *
        cases u <;> cases v <;> try (simp [binSV] at hr; done)
        · cases h1; cases h2
          obtain ⟨z, h3, h4⟩ := bin_int (P := P) (w := w) (t := t) (γ := γ) hr
          exact ⟨z, by simp [guard_int, h3], h4⟩
        · cases h1; cases h2
          obtain ⟨z, h3, h4⟩ := bin_flt (P := P) (w := w) (t := t) (γ := γ) hr
          exact ⟨z, by simp [guard_flt, h3], h4⟩
        · cases h1; cases h2
          obtain ⟨z, h3, h4⟩ := bin_str (P := P) (w := w) (t := t) (γ := γ) hr
          exact ⟨z, by simp [guard_str, h3], h4⟩
      obtain ⟨z, h3, h4⟩ := key
      refine Done.sv hR ?_ h4
      simp only [execOp, ho]
      simp only [Sem.run_bind, h3, Result.andThen_ok]
      rfl
    · simp at h
  · simp at h

theorem equal_bool {t : TypeId} (ht : P.underlying t = some .bool) (m n : Bool) : (Op.equal t (.bool m) (.bool n)).run P w = .ok (m == n) w := by
  have key : ∀ d, (Op.equalIn (d + 1) t (.bool m) (.bool n)).run P w = .ok (m == n) w := fun d => by
    simp [Op.equalIn, run_underlying ht]
  exact key 9999

theorem op_eqB (hR : R P γ a w s) (hG : GlobOK E γ) {op : BinOp} {ng : Bool} (hop : op = (if ng then .neq else .eql)) {t t' : TypeId} {x y : Operand} {x' y' : Opd} (ho : o.op = .binOp op t x y t') (ht : P.underlying t = some .bool)
    (hx : opd x = some x') (hy : opd y = some y') (h : stepV E cf q o.dst s (.eqB ng x' y') = some (av, s1)) : Done P γ a w o av s1 := by
  simp only [stepV] at h
  split at h
  · rename_i u v hu hv
    simp only [Option.some.injEq, Prod.mk.injEq] at h
    obtain ⟨rfl, rfl⟩ := h
    have h1 := (ev_rep hR hG hx).bool hu
    have h2 := (ev_rep hR hG hy).bool hv
    refine Done.sv hR ?_ (.bool _)
    simp only [execOp, ho, h1, h2]
    subst hop
    cases ng
    · simp [guard_bool, binOp, equal_bool ht]
    · simp [guard_bool, binOp, equal_bool ht]
  · simp at h

theorem op_not (hR : R P γ a w s) (hG : GlobOK E γ) {t : TypeId} {x : Operand} {x' : Opd} (ho : o.op = .unOp .not t x) (hx : opd x = some x')
    (h : stepV E cf q o.dst s (.not x') = some (av, s1)) : Done P γ a w o av s1 := by
  simp only [stepV] at h
  split at h
  · rename_i b hb
    simp only [Option.some.injEq, Prod.mk.injEq] at h
    obtain ⟨rfl, rfl⟩ := h
    have h1 := (ev_rep hR hG hx).bool hb
    refine Done.sv hR ?_ (.bool _)
    simp only [execOp, ho, h1, Op.unary]
    rfl
  · simp at h

theorem op_neg (hR : R P γ a w s) (hG : GlobOK E γ) {t : TypeId} {x : Operand} {x' : Opd} (ho : o.op = .unOp .neg t x) (hx : opd x = some x')
    (h : stepV E cf q o.dst s (.neg x') = some (av, s1)) : Done P γ a w o av s1 := by
  simp only [stepV] at h
  split at h
  · rename_i k n hb
    simp only [Option.some.injEq, Prod.mk.injEq] at h
    obtain ⟨rfl, rfl⟩ := h
    have h1 := (ev_rep hR hG hx).int hb
    refine Done.sv hR ?_ (.int _ _)
    simp only [execOp, ho, h1, Op.unary, Op.intArith]
    rfl
  · simp at h

theorem op_cpl (hR : R P γ a w s) (hG : GlobOK E γ) {t : TypeId} {x : Operand} {x' : Opd} (ho : o.op = .unOp .xor t x) (hx : opd x = some x')
    (h : stepV E cf q o.dst s (.cpl x') = some (av, s1)) : Done P γ a w o av s1 := by
  simp only [stepV] at h
  split at h
  · rename_i k n hb
    simp only [Option.some.injEq, Prod.mk.injEq] at h
    obtain ⟨rfl, rfl⟩ := h
    have h1 := (ev_rep hR hG hx).int hb
    refine Done.sv hR ?_ (.int _ _)
    simp only [execOp, ho, h1, Op.unary, Op.intBits]
    rfl
  · simp at h

theorem op_i2i (hR : R P γ a w s) (hG : GlobOK E γ) {src dst : TypeId} {x : Operand} {x' : Opd} {k0 k : IntKind} (ho : o.op = .convert src dst x) (hs : P.underlying src = some (.int k0)) (hd : P.underlying dst = some (.int k)) (hx : opd x = some x')
    (h : stepV E cf q o.dst s (.i2i k x') = some (av, s1)) : Done P γ a w o av s1 := by
  simp only [stepV] at h
  split at h
  · rename_i k' n hb
    simp only [Option.some.injEq, Prod.mk.injEq] at h
    obtain ⟨rfl, rfl⟩ := h
    have h1 := (ev_rep hR hG hx).int hb
    refine Done.sv hR ?_ (.int _ _)
    simp only [execOp, ho, h1]
    simp [convert, run_underlying hs, run_underlying hd, Conv.intToInt]
  · simp at h

theorem op_i2f (hR : R P γ a w s) (hG : GlobOK E γ) {src dst : TypeId} {x : Operand} {x' : Opd} {k0 : IntKind} {k : FloatKind} (ho : o.op = .convert src dst x) (hs : P.underlying src = some (.int k0)) (hd : P.underlying dst = some (.float k)) (hx : opd x = some x')
    (h : stepV E cf q o.dst s (.i2f k x') = some (av, s1)) : Done P γ a w o av s1 := by
  simp only [stepV] at h
  split at h
  · rename_i k' n hb
    simp only [Option.some.injEq, Prod.mk.injEq] at h
    obtain ⟨rfl, rfl⟩ := h
    have h1 := (ev_rep hR hG hx).int hb
    refine Done.sv hR ?_ (.flt _ _)
    simp only [execOp, ho, h1]
    simp [convert, run_underlying hs, run_underlying hd, Conv.intToFloat]
  · simp at h

theorem op_s2s (hR : R P γ a w s) (hG : GlobOK E γ) {src dst : TypeId} {x : Operand} {x' : Opd} (ho : o.op = .convert src dst x) (hs : P.underlying src = some .string) (hd : P.underlying dst = some .string) (hx : opd x = some x')
    (h : stepV E cf q o.dst s (.s2s x') = some (av, s1)) : Done P γ a w o av s1 := by
  simp only [stepV] at h
  split at h
  · rename_i l hb
    simp only [Option.some.injEq, Prod.mk.injEq] at h
    obtain ⟨rfl, rfl⟩ := h
    have h1 := (ev_rep hR hG hx).str hb
    refine Done.sv hR ?_ (.str _)
    simp only [execOp, ho, h1]
    simp [convert, run_underlying hs, run_underlying hd]
  · simp at h

theorem op_nilChk (hR : R P γ a w s) (hG : GlobOK E γ) {x : Operand} {x' : Opd} (ho : o.op = .nilCheck x) (hx : opd x = some x')
    (h : stepV E cf q o.dst s (.nilChk x') = some (av, s1)) : Done P γ a w o av s1 := by
  have hv := ev_rep hR hG hx
  simp only [stepV] at h
  split at h <;> simp only [Option.some.injEq, Prod.mk.injEq, reduceCtorEq] at h <;> obtain ⟨rfl, rfl⟩ := h
  · rename_i i off he
    rw [he] at hv
    generalize hX : a.eval x = X at hv
    cases hv with
    | ptr _ _ b hb => exact Done.same hR (v := .pointer (some ⟨b, off, none⟩)) (ℓ := .ret) (by simp only [execOp, ho, hX]; rfl) (.ptr _ _ _ _ hb) rfl
  · rename_i cs he
    rw [he] at hv
    have hr := hv.sv_inv
    obtain ⟨b, off, vs, hu, _⟩ := hr.ref_inv
    exact Done.sv hR (by simp only [execOp, ho]; rw [hu]; rfl) (hu ▸ hr)

end Go.Ev

set_option linter.unusedSimpArgs false
set_option linter.unusedVariables false
namespace Go.Ev
variable {P : Program} {E : Env} {γ : Gh} {a : Act} {w : World} {s : St} {o : Oper} {cf : CallF} {q : Bool} {s1 : St} {av : AV}

theorem equal_iface {t : TypeId} {ms : Array (String × TypeId)} (ht : P.underlying t = some (.interface ms)) (u : Value) (b : Bool) (hu : (b = true ∧ u = .nilIface) ∨ (b = false ∧ ∃ t v, u = .iface t v)) :
    (Op.equal t u .nilIface).run P w = .ok b w ∧ (Op.equal t .nilIface u).run P w = .ok b w := by
  have key : ∀ d, (Op.equalIn (d + 1) t u .nilIface).run P w = .ok b w ∧ (Op.equalIn (d + 1) t .nilIface u).run P w = .ok b w := fun d => by
    rcases hu with ⟨rfl, rfl⟩ | ⟨rfl, t', v, rfl⟩ <;> simp [Op.equalIn, run_underlying ht]
  exact key 9999

theorem equal_ptr {t e : TypeId} (ht : P.underlying t = some (.pointer e)) (u : Value) (b : Bool) (hu : (b = true ∧ u = .pointer none) ∨ (b = false ∧ ∃ x, u = .pointer (some x))) :
    (Op.equal t u (.pointer none)).run P w = .ok b w ∧ (Op.equal t (.pointer none) u).run P w = .ok b w := by
  have key : ∀ d, (Op.equalIn (d + 1) t u (.pointer none)).run P w = .ok b w ∧ (Op.equalIn (d + 1) t (.pointer none) u).run P w = .ok b w := fun d => by
    rcases hu with ⟨rfl, rfl⟩ | ⟨rfl, x, rfl⟩ <;> simp [Op.equalIn, run_underlying ht]
  exact key 9999

theorem equal_slice {t e : TypeId} (ht : P.underlying t = some (.slice e)) (u : Value) (b : Bool) (hu : (b = true ∧ u = .slice none 0 0) ∨ (b = false ∧ ∃ x n c, u = .slice (some x) n c)) :
    (Op.equal t u (.slice none 0 0)).run P w = .ok b w ∧ (Op.equal t (.slice none 0 0) u).run P w = .ok b w := by
  have key : ∀ d, (Op.equalIn (d + 1) t u (.slice none 0 0)).run P w = .ok b w ∧ (Op.equalIn (d + 1) t (.slice none 0 0) u).run P w = .ok b w := fun d => by
    rcases hu with ⟨rfl, rfl⟩ | ⟨rfl, x, n, c, rfl⟩ <;> simp [Op.equalIn, run_underlying ht]
  exact key 9999

theorem equal_func {t : TypeId} {ps rs : Array TypeId} {vr : Bool} (ht : P.underlying t = some (.func ps rs vr)) (u : Value) (b : Bool) (hu : (b = true ∧ u = .nilFunc) ∨ (b = false ∧ ∃ x y z, u = .func x y z)) :
    (Op.equal t u .nilFunc).run P w = .ok b w ∧ (Op.equal t .nilFunc u).run P w = .ok b w := by
  have key : ∀ d, (Op.equalIn (d + 1) t u .nilFunc).run P w = .ok b w ∧ (Op.equalIn (d + 1) t .nilFunc u).run P w = .ok b w := fun d => by
    rcases hu with ⟨rfl, rfl⟩ | ⟨rfl, x, y, z, rfl⟩ <;> simp [Op.equalIn, run_underlying ht]
  exact key 9999

def NilIs : NilK → Bool → Value → Prop
  | .i, b, u => (b = true ∧ u = .nilIface) ∨ (b = false ∧ ∃ t v, u = .iface t v)
  | .p, b, u => (b = true ∧ u = .pointer none) ∨ (b = false ∧ ∃ x, u = .pointer (some x))
  | .s, b, u => (b = true ∧ u = .slice none 0 0) ∨ (b = false ∧ ∃ x n c, u = .slice (some x) n c)
  | .f, b, u => (b = true ∧ u = .nilFunc) ∨ (b = false ∧ ∃ x y z, u = .func x y z)

theorem RepS.nilS_of {F : Frz} {xs : List SV} {u : Value} (h : RepS F (.sl xs) u) (hx : xs ≠ []) : NilIs .s false u := by
  rcases h.sl_inv with ⟨rfl, _⟩ | ⟨b, o, c, k, vs, rfl, _⟩
  · exact absurd rfl hx
  · exact .inr ⟨rfl, _, _, _, rfl⟩

/-- What is known to be nil, or not. -/
theorem RepA.nil {ℓ : Loc} {u : Value} (h : RepA P γ w ℓ av u) {k : NilK} {b : Bool} (e : av.nil? k = some b) : NilIs k b u := by
  unfold AV.nil? at e
  split at e
  case h_12 xs =>
    split at e
    · simp at e
    · rename_i hx
      simp only [Option.some.injEq] at e; subst e
      exact h.sv_inv.nilS_of (by simpa using hx)
  case h_13 e' xs =>
    split at e
    · simp at e
    · rename_i hx
      simp only [Option.some.injEq] at e; subst e
      cases h with
      | own _ _ _ h => exact h.rep.nilS_of (by simpa using hx)
  case h_14 => simp at e
  all_goals (simp only [Option.some.injEq] at e; subst e)
  case h_1 => cases h.sv_inv; exact .inl ⟨rfl, rfl⟩
  case h_2 => cases h.sv_inv; exact .inl ⟨rfl, rfl⟩
  case h_3 => cases h.sv_inv; exact .inl ⟨rfl, rfl⟩
  case h_4 => cases h.sv_inv; exact .inl ⟨rfl, rfl⟩
  case h_5 => cases h.sv_inv; exact .inr ⟨rfl, _, _, rfl⟩
  case h_6 => cases h.sv_inv; exact .inr ⟨rfl, _, _, _, rfl⟩
  case h_7 => cases h.sv_inv; exact .inr ⟨rfl, _, rfl⟩
  case h_8 => cases h; exact .inr ⟨rfl, _, rfl⟩
  case h_9 => cases h; exact .inr ⟨rfl, _, _, _, rfl⟩
  case h_10 => cases h; exact .inr ⟨rfl, _, _, _, rfl⟩
  case h_11 => cases h; exact .inr ⟨rfl, _, _, _, rfl⟩

theorem isNilC_eval {k : NilK} {x : Operand} (h : isNilC k x = true) : ∃ v, x = .const v ∧ (match k with | .i => v = .nilIface | .p => v = .pointer none | .s => v = .slice none 0 0 | .f => v = .nilFunc) := by
  unfold isNilC at h
  split at h <;> first | exact ⟨_, rfl, rfl⟩ | simp at h

theorem op_isNil (hR : R P γ a w s) (hG : GlobOK E γ) {op : BinOp} {ng : Bool} (hop : op = (if ng then .neq else .eql)) {t t' : TypeId} {d : TypeDesc} {k : NilK} (ht : P.underlying t = some d) (hk : nilKind d = some k) {x y z : Operand} {z' : Opd}
    (ho : o.op = .binOp op t x y t') (hz : opd z = some z') (hxy : (z = x ∧ isNilC k y = true) ∨ (z = y ∧ isNilC k x = true)) (h : stepV E cf q o.dst s (.isNil k ng z') = some (av, s1)) : Done P γ a w o av s1 := by
  simp only [stepV] at h
  split at h
  · rename_i b hb
    simp only [Option.some.injEq, Prod.mk.injEq] at h
    obtain ⟨rfl, rfl⟩ := h
    have hn := (ev_rep hR hG hz).nil hb
    refine Done.sv hR (v := .bool (b != ng)) ?_ (.bool _)
    simp only [execOp, ho]
    generalize hu : a.eval z = u at hn
    subst hop
    have hgoal : ∀ (g : (eqGuard (if ng then .neq else .eql) t x y (a.eval x) (a.eval y)).run P w = .ok () w) (e : (Op.equal t (a.eval x) (a.eval y)).run P w = .ok b w)
        (hb1 : binOp (if ng then .neq else .eql) t (a.eval x) (a.eval y) = (do pure (.bool ((← Op.equal t (a.eval x) (a.eval y)) != ng)))),
        (do let r ← (do eqGuard (if ng then .neq else .eql) t x y (a.eval x) (a.eval y); binOp (if ng then .neq else .eql) t (a.eval x) (a.eval y) : Sem Value); pure (Next.value r) : Sem Next).run P w = .ok (.value (.bool (b != ng))) w := by
      intro g e hb1
      rw [hb1]
      simp [g, e]
    cases k <;> cases d <;> simp [nilKind] at hk
    case i.interface ms =>
      rcases hxy with ⟨rfl, hc⟩ | ⟨rfl, hc⟩
      · obtain ⟨v, hxe, hve⟩ := isNilC_eval hc
        simp only at hve
        subst hve
        refine hgoal ?_ ?_ ?_
        · rw [hu, hxe]; rcases hn with ⟨_, rfl⟩ | ⟨_, _, _, rfl⟩ <;> cases ng <;> simp [eqGuard, Act.eval]
        · rw [hu, hxe]; exact (equal_iface ht u b hn).1
        · rw [hu, hxe]; rcases hn with ⟨_, rfl⟩ | ⟨_, _, _, rfl⟩ <;> cases ng <;> simp [binOp, Act.eval]
      · obtain ⟨v, hxe, hve⟩ := isNilC_eval hc
        simp only at hve
        subst hve
        refine hgoal ?_ ?_ ?_
        · rw [hu, hxe]; rcases hn with ⟨_, rfl⟩ | ⟨_, _, _, rfl⟩ <;> cases ng <;> simp [eqGuard, Act.eval]
        · rw [hu, hxe]; exact (equal_iface ht u b hn).2
        · rw [hu, hxe]; rcases hn with ⟨_, rfl⟩ | ⟨_, _, _, rfl⟩ <;> cases ng <;> simp [binOp, Act.eval]
    case p.pointer e =>
      rcases hxy with ⟨rfl, hc⟩ | ⟨rfl, hc⟩
      · obtain ⟨v, hxe, hve⟩ := isNilC_eval hc
        simp only at hve
        subst hve
        refine hgoal ?_ ?_ ?_
        · rw [hu, hxe]; rcases hn with ⟨_, rfl⟩ | ⟨_, _, rfl⟩ <;> cases ng <;> simp [eqGuard, Act.eval]
        · rw [hu, hxe]; exact (equal_ptr ht u b hn).1
        · rw [hu, hxe]; rcases hn with ⟨_, rfl⟩ | ⟨_, _, rfl⟩ <;> cases ng <;> simp [binOp, Act.eval]
      · obtain ⟨v, hxe, hve⟩ := isNilC_eval hc
        simp only at hve
        subst hve
        refine hgoal ?_ ?_ ?_
        · rw [hu, hxe]; rcases hn with ⟨_, rfl⟩ | ⟨_, _, rfl⟩ <;> cases ng <;> simp [eqGuard, Act.eval]
        · rw [hu, hxe]; exact (equal_ptr ht u b hn).2
        · rw [hu, hxe]; rcases hn with ⟨_, rfl⟩ | ⟨_, _, rfl⟩ <;> cases ng <;> simp [binOp, Act.eval]
    case s.slice e =>
      rcases hxy with ⟨rfl, hc⟩ | ⟨rfl, hc⟩
      · obtain ⟨v, hxe, hve⟩ := isNilC_eval hc
        simp only at hve
        subst hve
        refine hgoal ?_ ?_ ?_
        · rw [hu, hxe]; rcases hn with ⟨_, rfl⟩ | ⟨_, _, _, _, rfl⟩ <;> cases ng <;> simp [eqGuard, Act.eval]
        · rw [hu, hxe]; exact (equal_slice ht u b hn).1
        · rw [hu, hxe]; rcases hn with ⟨_, rfl⟩ | ⟨_, _, _, _, rfl⟩ <;> cases ng <;> simp [binOp, Act.eval]
      · obtain ⟨v, hxe, hve⟩ := isNilC_eval hc
        simp only at hve
        subst hve
        refine hgoal ?_ ?_ ?_
        · rw [hu, hxe]; rcases hn with ⟨_, rfl⟩ | ⟨_, _, _, _, rfl⟩ <;> cases ng <;> simp [eqGuard, Act.eval]
        · rw [hu, hxe]; exact (equal_slice ht u b hn).2
        · rw [hu, hxe]; rcases hn with ⟨_, rfl⟩ | ⟨_, _, _, _, rfl⟩ <;> cases ng <;> simp [binOp, Act.eval]
    case f.func ps rs vr =>
      rcases hxy with ⟨rfl, hc⟩ | ⟨rfl, hc⟩
      · obtain ⟨v, hxe, hve⟩ := isNilC_eval hc
        simp only at hve
        subst hve
        refine hgoal ?_ ?_ ?_
        · rw [hu, hxe]; rcases hn with ⟨_, rfl⟩ | ⟨_, _, _, _, rfl⟩ <;> cases ng <;> simp [eqGuard, Act.eval]
        · rw [hu, hxe]; exact (equal_func ht u b hn).1
        · rw [hu, hxe]; rcases hn with ⟨_, rfl⟩ | ⟨_, _, _, _, rfl⟩ <;> cases ng <;> simp [binOp, Act.eval]
      · obtain ⟨v, hxe, hve⟩ := isNilC_eval hc
        simp only at hve
        subst hve
        refine hgoal ?_ ?_ ?_
        · rw [hu, hxe]; rcases hn with ⟨_, rfl⟩ | ⟨_, _, _, _, rfl⟩ <;> cases ng <;> simp [eqGuard, Act.eval]
        · rw [hu, hxe]; exact (equal_func ht u b hn).2
        · rw [hu, hxe]; rcases hn with ⟨_, rfl⟩ | ⟨_, _, _, _, rfl⟩ <;> cases ng <;> simp [binOp, Act.eval]
  · simp at h

theorem below_spec {n : Nat} {i : Int} {j : Nat} (h : below n i = some j) : 0 ≤ i ∧ i < n ∧ j = i.toNat ∧ j < n := by
  unfold below at h
  split at h <;> simp only [Option.some.injEq, reduceCtorEq] at h
  rename_i hc
  exact ⟨hc.1, hc.2, h.symm, by omega⟩

theorem upTo_spec {n : Nat} {i : Int} {j : Nat} (h : upTo n i = some j) : 0 ≤ i ∧ i ≤ n ∧ j = i.toNat ∧ j ≤ n := by
  unfold upTo at h
  split at h <;> simp only [Option.some.injEq, reduceCtorEq] at h
  rename_i hc
  exact ⟨hc.1, hc.2, h.symm, by omega⟩

theorem op_idxS (hR : R P γ a w s) (hG : GlobOK E γ) {t : TypeId} {x i : Operand} {x' i' : Opd} (ho : o.op = .index t x i) (ht : P.underlying t = some .string) (hx : opd x = some x') (hi : opd i = some i')
    (h : stepV E cf q o.dst s (.idxS x' i') = some (av, s1)) : Done P γ a w o av s1 := by
  simp only [stepV] at h
  split at h
  · rename_i l k n hl hn
    split at h
    · rename_i j hj
      split at h
      · rename_i b hb
        simp only [Option.some.injEq, Prod.mk.injEq] at h
        obtain ⟨rfl, rfl⟩ := h
        have h1 := (ev_rep hR hG hx).str hl
        have h2 := (ev_rep hR hG hi).int hn
        obtain ⟨c1, c2, rfl, c4⟩ := below_spec hj
        refine Done.sv hR ?_ (.int _ _)
        simp only [execOp, ho, h1, h2]
        have hsz : (⟨l.toArray⟩ : ByteArray).size = l.length := by simp [ByteArray.size]
        have hget : (⟨l.toArray⟩ : ByteArray)[n.toNat]? = some b := by
          rw [ByteArray.getElem?_lt' _ _ (by rw [hsz]; exact c4)]
          have : l[n.toNat]? = some b := hb
          rw [List.getElem?_eq_getElem c4] at this
          simp only [Option.some.injEq] at this ⊢
          rw [← this]
          rfl
        simp [Instr.index, asIntOf, run_underlying ht, c1, hget]
      · simp at h
    · simp at h
  · simp at h

theorem run_sliceBound {v : Value} {k : IntKind} {n : Int} (hv : v = .int k n) (y : Nat) (c : BoundsCode) (h1 : 0 ≤ n) (h2 : n ≤ y) : (Instr.sliceBound v y c).run P w = .ok n.toNat w := by
  subst hv
  simp [Instr.sliceBound, asIntOf, h1, h2]

/-- The bounds of a slice. -/
theorem run_bounds (hR : R P γ a w s) (hG : GlobOK E γ) {lo hi : Option Operand} {lo' hi' : Option Opd} (hlo : opdO lo = some lo') (hhi : opdO hi = some hi')
    {len cap : Nat} (hlc : len ≤ cap) {isS : Bool} {H : Int} {L : Int} {h' l' : Nat} (e1 : optInt E s hi' len = some H) (e2 : upTo len H = some h') (e3 : optInt E s lo' 0 = some L) (e4 : upTo h' L = some l') :
    (Instr.sliceBounds isS len cap (lo.map a.eval) (hi.map a.eval) none).run P w = .ok (l', h', cap) w := by
  obtain ⟨p1, p2, rfl, p4⟩ := upTo_spec e2
  obtain ⟨q1, q2, rfl, q4⟩ := upTo_spec e4
  cases hi with
  | none =>
    simp only [opdO, Option.some.injEq] at hhi; subst hhi
    simp only [optInt, Option.some.injEq] at e1; subst e1
    cases lo with
    | none =>
      simp only [opdO, Option.some.injEq] at hlo; subst hlo
      simp only [optInt, Option.some.injEq] at e3; subst e3
      simp [Instr.sliceBounds]
    | some v =>
      simp only [opdO, Option.map_eq_some_iff] at hlo
      obtain ⟨v', hv, rfl⟩ := hlo
      simp only [optInt, Option.map_eq_some_iff] at e3
      obtain ⟨⟨k, n⟩, hn, rfl⟩ := e3
      have := (ev_rep hR hG hv).int hn
      simp [Instr.sliceBounds, run_sliceBound (P := P) (w := w) this len _ q1 (by simpa using q2)]
  | some u =>
    simp only [opdO, Option.map_eq_some_iff] at hhi
    obtain ⟨u', hu, rfl⟩ := hhi
    simp only [optInt, Option.map_eq_some_iff] at e1
    obtain ⟨⟨k', n'⟩, hn', rfl⟩ := e1
    have hu' := (ev_rep hR hG hu).int hn'
    cases lo with
    | none =>
      simp only [opdO, Option.some.injEq] at hlo; subst hlo
      simp only [optInt, Option.some.injEq] at e3; subst e3
      simp [Instr.sliceBounds, run_sliceBound (P := P) (w := w) hu' cap _ p1 (by omega)]
    | some v =>
      simp only [opdO, Option.map_eq_some_iff] at hlo
      obtain ⟨v', hv, rfl⟩ := hlo
      simp only [optInt, Option.map_eq_some_iff] at e3
      obtain ⟨⟨k, n⟩, hn, rfl⟩ := e3
      have := (ev_rep hR hG hv).int hn
      simp [Instr.sliceBounds, run_sliceBound (P := P) (w := w) hu' cap _ p1 (by omega), run_sliceBound (P := P) (w := w) this n'.toNat _ q1 q2]

theorem op_subS (hR : R P γ a w s) (hG : GlobOK E γ) {t : TypeId} {x : Operand} {lo hi : Option Operand} {x' : Opd} {lo' hi' : Option Opd} (ho : o.op = .slice t x lo hi none) (ht : P.underlying t = some .string) (hx : opd x = some x')
    (hlo : opdO lo = some lo') (hhi : opdO hi = some hi')
    (h : stepV E cf q o.dst s (.subS x' lo' hi') = some (av, s1)) : Done P γ a w o av s1 := by
  simp only [stepV] at h
  split at h <;> try (simp at h; done)
  rename_i l hl
  split at h <;> try (simp at h; done)
  rename_i H e1
  split at h <;> try (simp at h; done)
  rename_i h' e2
  split at h <;> try (simp at h; done)
  rename_i L e3
  split at h <;> try (simp at h; done)
  rename_i l' e4
  simp only [Option.some.injEq, Prod.mk.injEq] at h
  obtain ⟨rfl, rfl⟩ := h
  have h1 := (ev_rep hR hG hx).str hl
  have hsz : (⟨l.toArray⟩ : ByteArray).size = l.length := by simp [ByteArray.size]
  have hb := run_bounds (isS := false) hR hG hlo hhi (Nat.le_refl l.length) e1 e2 e3 e4
  refine Done.sv hR (v := .string ⟨((l.take h').drop l').toArray⟩) ?_ (.str _)
  have hex : (⟨l.toArray⟩ : ByteArray).extract l' h' = ⟨((l.take h').drop l').toArray⟩ := by
    apply ByteArray.ext
    simp [List.drop_take, List.extract]
  simp only [execOp, ho, h1]
  simp [Instr.sliceAt, Instr.slice, run_underlying ht, hsz, hb, hex]

theorem args_one {c : Call} {x : Operand} (h : c.args.toList = [x]) : c.args = #[x] := by
  have : c.args = c.args.toList.toArray := by simp
  rw [this, h]

theorem size_mk (l : List UInt8) : (⟨l.toArray⟩ : ByteArray).size = l.length := by
  show l.toArray.size = _
  simp

theorem op_lenS (hR : R P γ a w s) (hG : GlobOK E γ) {c : Call} {x : Operand} {t : TypeId} {x' : Opd} (ho : o.op = .call c) (hc : c.callee = .builtin .len) (hca : c.args.toList = [x]) (hct : c.argTypes[0]? = some t)
    (ht : P.underlying t = some .string) (hx : opd x = some x') (h : stepV E cf q o.dst s (.lenS x') = some (av, s1)) : Done P γ a w o av s1 := by
  simp only [stepV] at h
  split at h
  · rename_i l hl
    simp only [Option.some.injEq, Prod.mk.injEq] at h
    obtain ⟨rfl, rfl⟩ := h
    have h1 := (ev_rep hR hG hx).str hl
    refine Done.sv hR ?_ (.int _ _)
    simp only [execOp, ho, resolve, hc, args_one hca, invoke, builtin, h1]
    simp [Builtin.len_, hct, h1, run_underlying ht, goInt, size_mk]
  · simp at h

theorem args_two {c : Call} {x y : Operand} (h : c.args.toList = [x, y]) : c.args = #[x, y] := by
  have : c.args = c.args.toList.toArray := by simp
  rw [this, h]

theorem op_mm (hR : R P γ a w s) (hG : GlobOK E γ) {c : Call} {x y : Operand} {mx : Bool} {x' y' : Opd} (ho : o.op = .call c) (hc : c.callee = .builtin (if mx then .max else .min)) (hca : c.args.toList = [x, y])
    (hx : opd x = some x') (hy : opd y = some y') (h : stepV E cf q o.dst s (.mm mx x' y') = some (av, s1)) : Done P γ a w o av s1 := by
  simp only [stepV] at h
  split at h
  · rename_i k m k2 n hm hn
    simp only [Option.some.injEq, Prod.mk.injEq] at h
    obtain ⟨rfl, rfl⟩ := h
    have h1 := (ev_rep hR hG hx).int hm
    have h2 := (ev_rep hR hG hy).int hn
    refine Done.sv hR ?_ (.int _ _)
    cases mx with
    | true =>
      simp only [if_true] at hc
      simp only [execOp, ho, resolve, hc, args_two hca, invoke, builtin]
      simp [Builtin.max_, Builtin.max2, h1, h2]
    | false =>
      simp only [Bool.false_eq_true, if_false] at hc
      simp only [execOp, ho, resolve, hc, args_two hca, invoke, builtin]
      simp [Builtin.min_, Builtin.min2, h1, h2]
  · simp at h

theorem op_lenL (hR : R P γ a w s) (hG : GlobOK E γ) {c : Call} {x : Operand} {t e : TypeId} {x' : Opd} (ho : o.op = .call c) (hc : c.callee = .builtin .len) (hca : c.args.toList = [x]) (hct : c.argTypes[0]? = some t)
    (ht : P.underlying t = some (.slice e)) (hx : opd x = some x') (h : stepV E cf q o.dst s (.lenL x') = some (av, s1)) : Done P γ a w o av s1 := by
  have hv := ev_rep hR hG hx
  have hrun : ∀ (n : Nat), (∃ p k, a.eval x = .slice p n k) → (execOp a.eval o).run P w = .ok (.value (.int .i64 n)) w := by
    rintro n ⟨p, k, e⟩
    simp only [execOp, ho, resolve, hc, args_one hca, invoke, builtin, e]
    simp [Builtin.len_, hct, e, run_underlying ht, goInt]
  simp only [stepV] at h
  split at h
  · rename_i i n k he
    simp only [Option.some.injEq, Prod.mk.injEq] at h
    obtain ⟨rfl, rfl⟩ := h
    rw [he] at hv
    generalize hX : a.eval x = X at hv
    cases hv
    exact Done.sv hR (hrun n ⟨_, _, hX⟩) (.int _ _)
  · rename_i i n k e' he
    simp only [Option.some.injEq, Prod.mk.injEq] at h
    obtain ⟨rfl, rfl⟩ := h
    rw [he] at hv
    generalize hX : a.eval x = X at hv
    cases hv
    exact Done.sv hR (hrun n ⟨_, _, hX⟩) (.int _ _)
  · split at h
    · rename_i xs hxs
      simp only [Option.some.injEq, Prod.mk.injEq] at h
      obtain ⟨rfl, rfl⟩ := h
      refine Done.sv hR (hrun xs.length ?_) (.int _ _)
      rcases (hv.elems hxs).sl_inv with ⟨rfl, p, k, e⟩ | ⟨b, o', k, _, _, e, _⟩
      · exact ⟨p, k, e⟩
      · exact ⟨_, k, e⟩
    · simp at h

theorem add_none (b o n : Nat) : (⟨b, o, none⟩ : Addr).add n = ⟨b, o + n, none⟩ := by
  unfold Addr.add
  split
  · rename_i h; subst h; rfl
  · rfl

theorem RepS.sub {F : Frz} {b o c k : Nat} {xs : List SV} {vs : Nat → Value} (hk : 0 < k) (hc : xs.length ≤ c) (hl : ∀ x ∈ xs, x.cells.length = k)
    (hF : ∀ j, j < xs.length * k → F b (o + j) (vs j)) (ho : ∀ (j : Nat) (x : SV), (flat xs)[j]? = some x → x.one = true) (hr : ∀ (j : Nat) (x : SV), (flat xs)[j]? = some x → RepS F x (vs j))
    {h l : Nat} (h1 : h ≤ xs.length) (h2 : l ≤ h) : RepS F (.sl ((xs.take h).drop l)) (.slice (some ⟨b, o + l * k, none⟩) (h - l) (c - l)) := by
  have hlen : ((xs.take h).drop l).length = h - l := by simp; omega
  by_cases he : (xs.take h).drop l = []
  · have : h - l = 0 := by rw [← hlen, he]; rfl
    rw [he, this]
    exact .slE _ _
  · rw [← hlen]
    have hl1 : ∀ x ∈ xs.take h, x.cells.length = k := fun x hx => hl x (List.mem_of_mem_take hx)
    have hflat : ∀ j, (flat ((xs.take h).drop l))[j]? = if j < (h - l) * k then (flat xs)[l * k + j]? else none := by
      intro j
      rw [flat_drop l hl1, flat_take h hl, List.getElem?_drop, List.getElem?_take]
      have e : l * k + j < h * k ↔ j < (h - l) * k := by rw [Nat.sub_mul]; have := Nat.mul_le_mul_right k h2; omega
      by_cases hj : j < (h - l) * k
      · rw [if_pos (e.2 hj), if_pos hj]
      · rw [if_neg (fun hh => hj (e.1 hh)), if_neg hj]
    refine .sl _ b (o + l * k) _ k (fun j => vs (l * k + j)) hk he (by rw [hlen]; omega) (fun x hx => hl1 x (List.mem_of_mem_drop hx)) (fun j hj => ?_) (fun j x hx => ?_) (fun j x hx => ?_)
    · rw [hlen] at hj
      have := hF (l * k + j) (by have := Nat.mul_le_mul_right k h1; rw [Nat.sub_mul] at hj; omega)
      rw [Nat.add_assoc]; exact this
    · rw [hflat] at hx
      split at hx
      · exact ho _ x hx
      · simp at hx
    · rw [hflat] at hx
      split at hx
      · exact hr _ x hx
      · simp at hx

theorem op_subL (hR : R P γ a w s) (hG : GlobOK E γ) {t e : TypeId} {i : TypeInfo} {x : Operand} {lo hi : Option Operand} {x' : Opd} {lo' hi' : Option Opd} (ho : o.op = .slice t x lo hi none) (ht : P.underlying t = some (.slice e)) (hie : P.info? e = some i) (hx : opd x = some x')
    (hlo : opdO lo = some lo') (hhi : opdO hi = some hi') (h : stepV E cf q o.dst s (.subL i.size x' lo' hi') = some (av, s1)) : Done P γ a w o av s1 := by
  simp only [stepV] at h
  split at h <;> try (simp at h; done)
  rename_i l hl
  split at h <;> try (simp at h; done)
  rename_i H e1
  split at h <;> try (simp at h; done)
  rename_i h' e2
  split at h <;> try (simp at h; done)
  rename_i L e3
  split at h <;> try (simp at h; done)
  rename_i l' e4
  split at h <;> try (simp at h; done)
  rename_i hsz
  simp only [Option.some.injEq, Prod.mk.injEq] at h
  obtain ⟨rfl, rfl⟩ := h
  obtain ⟨p1, p2, p3, p4⟩ := upTo_spec e2
  obtain ⟨q1, q2, q3, q4⟩ := upTo_spec e4
  rcases ((ev_rep hR hG hx).elems hl).sl_inv with ⟨rfl, pa, c, hu⟩ | ⟨b, off, c, k, vs, hu, hk, hne, hc, hlen, hF, hone, hr⟩
  · have hb := run_bounds (isS := true) (cap := c) hR hG hlo hhi (by simp) e1 e2 e3 e4
    have hh0 : h' = 0 := by simpa using p4
    have hl0 : l' = 0 := by omega
    subst hh0; subst hl0
    refine Done.sv hR (v := .slice (if c = 0 then pa else pa.map (·.add (0 * i.size))) 0 c) ?_ (by simpa using RepS.slE _ _)
    simp only [execOp, ho, hu]
    simp only [List.length_nil] at hb
    simp [Instr.sliceAt, Instr.slice, run_underlying ht, hb, sizeOf, typeInfo, hie]
  · have hb := run_bounds (isS := true) (cap := c) hR hG hlo hhi hc e1 e2 e3 e4
    have hki : k = i.size := by
      cases l with
      | nil => exact absurd rfl hne
      | cons y ys =>
        have h2 := hsz.2
        simp only [uni, List.all_cons, Bool.and_eq_true, beq_iff_eq] at h2
        rw [← h2.1]; exact (hlen y (by simp)).symm
    subst hki
    by_cases hcl : c = l'
    · have hh : h' = l' := by omega
      subst hh
      subst hcl
      refine Done.sv hR (v := .slice (some ⟨b, off, none⟩) 0 0) ?_ ?_
      · simp only [execOp, ho, hu]
        simp [Instr.sliceAt, Instr.slice, run_underlying ht, hb, sizeOf, typeInfo, hie]
      · have : (l.take c).drop c = [] := by simp
        rw [this]; exact .slE _ _
    · refine Done.sv hR (v := .slice (some ⟨b, off + l' * i.size, none⟩) (h' - l') (c - l')) ?_ (RepS.sub hk hc hlen hF hone hr p4 q4)
      simp only [execOp, ho, hu]
      simp [Instr.sliceAt, Instr.slice, run_underlying ht, hb, sizeOf, typeInfo, hie, hcl, add_none]

end Go.Ev

set_option linter.unusedSimpArgs false
set_option linter.unusedVariables false
namespace Go.Ev
variable {P : Program} {E : Env} {γ : Gh} {a : Act} {w : World} {s : St} {o : Oper} {cf : CallF} {q : Bool} {s1 : St} {av : AV}

theorem addrPlus_rep {ℓ : Loc} {u : Value} {av' : AV} (h : RepA P γ w ℓ av u) {k : Nat} (e : addrPlus av k = some av') :
    ∃ b off, u = .pointer (some ⟨b, off, none⟩) ∧ RepA P γ w .ret av' (.pointer (some ⟨b, off + k, none⟩)) ∧ av'.isOwn = false := by
  unfold addrPlus at e
  split at e <;> simp only [Option.some.injEq, reduceCtorEq] at e <;> subst e
  · rename_i cs
    obtain ⟨b, off, vs, rfl, hF, ho, hr⟩ := h.sv_inv.ref_inv
    refine ⟨b, off, rfl, .sv _ _ _ (.ref _ b (off + k) (fun j => vs (k + j)) (fun j hj => ?_) (fun j x hx => ?_) (fun j x hx => ?_)), rfl⟩
    · have := hF (k + j) (by simp at hj; omega)
      rw [Nat.add_assoc]; exact this
    · rw [List.getElem?_drop] at hx; exact ho _ x hx
    · rw [List.getElem?_drop] at hx; exact hr _ x hx
  · cases h with
    | ptr _ _ b hb => exact ⟨b, _, rfl, .ptr _ _ _ _ hb, rfl⟩

theorem op_fAddr (hR : R P γ a w s) (hG : GlobOK E γ) {t : TypeId} {fs : Array Field} {f : Nat} {g : Field} {i : TypeInfo} {x : Operand} {x' : Opd} (ho : o.op = .fieldAddr t x f) (ht : P.underlying t = some (.struct fs)) (hf : fs[f]? = some g) (hi : P.info? g.type = some i) (hz : i.size ≠ 0)
    (hx : opd x = some x') (h : stepV E cf q o.dst s (.fAddr g.offset x') = some (av, s1)) : Done P γ a w o av s1 := by
  simp only [stepV] at h
  split at h
  · rename_i av' he
    simp only [Option.some.injEq, Prod.mk.injEq] at h
    obtain ⟨rfl, rfl⟩ := h
    obtain ⟨b, off, hu, hr, hn⟩ := addrPlus_rep (ev_rep hR hG hx) he
    refine Done.same hR ?_ hr hn
    simp only [execOp, ho, hu]
    simp [Instr.fieldAt, run_underlying ht, hf, Instr.sureAddr, fieldPlace, sizeOf, typeInfo, hi, hz, add_none]
  · simp at h

theorem op_iAddrA (hR : R P γ a w s) (hG : GlobOK E γ) {t e : TypeId} {n : Nat} {i : TypeInfo} {x y : Operand} {x' y' : Opd} (ho : o.op = .indexAddr t x y) (ht : P.underlying t = some (.array n e)) (hi : P.info? e = some i)
    (hx : opd x = some x') (hy : opd y = some y') (h : stepV E cf q o.dst s (.iAddrA n i.size x' y') = some (av, s1)) : Done P γ a w o av s1 := by
  simp only [stepV] at h
  split at h <;> try (simp at h; done)
  rename_i k m hm
  split at h <;> try (simp at h; done)
  rename_i j hj
  split at h <;> try (simp at h; done)
  rename_i av' he
  simp only [Option.some.injEq, Prod.mk.injEq] at h
  obtain ⟨rfl, rfl⟩ := h
  obtain ⟨b, off, hu, hr, hn⟩ := addrPlus_rep (ev_rep hR hG hx) he
  have h2 := (ev_rep hR hG hy).int hm
  obtain ⟨c1, c2, rfl, c4⟩ := below_spec hj
  refine Done.same hR ?_ hr hn
  simp only [execOp, ho, hu, h2]
  simp [Instr.indexAt, asIntOf, run_underlying ht, Instr.sureAddr, sizeOf, typeInfo, hi, add_none, c1, c2]

theorem op_iAddrS (hR : R P γ a w s) (hG : GlobOK E γ) {t e : TypeId} {i : TypeInfo} {x y : Operand} {x' y' : Opd} (ho : o.op = .indexAddr t x y) (ht : P.underlying t = some (.slice e)) (hi : P.info? e = some i)
    (hx : opd x = some x') (hy : opd y = some y') (h : stepV E cf q o.dst s (.iAddrS i.size x' y') = some (av, s1)) : Done P γ a w o av s1 := by
  have hv := ev_rep hR hG hx
  have hrun : ∀ (b off : Nat) (n c : Nat) (k : IntKind) (m : Int), a.eval x = .slice (some ⟨b, off, none⟩) n c → a.eval y = .int k m → 0 ≤ m → m < n →
      (execOp a.eval o).run P w = .ok (.value (.pointer (some ⟨b, off + m.toNat * i.size, none⟩))) w := by
    intro b off n c k m e1 e2 h1 h2
    simp only [execOp, ho, e1, e2]
    simp [Instr.indexAt, asIntOf, run_underlying ht, sizeOf, typeInfo, hi, add_none, h1, h2]
  simp only [stepV] at h
  split at h <;> try (simp at h; done)
  rename_i k m hm
  have h2 := (ev_rep hR hG hy).int hm
  split at h
  · rename_i bi n e' he
    split at h <;> try (simp at h; done)
    rename_i hee
    split at h <;> try (simp at h; done)
    rename_i j hj
    simp only [Option.some.injEq, Prod.mk.injEq] at h
    obtain ⟨rfl, rfl⟩ := h
    obtain ⟨c1, c2, rfl, c4⟩ := below_spec hj
    rw [he] at hv
    generalize hX : a.eval x = X at hv
    cases hv with
    | mrow _ _ _ b c hb _ =>
      refine Done.same hR (hrun b 0 n c k m hX h2 c1 c2) (ℓ := .ret) ?_ rfl
      rw [Nat.zero_add]
      exact .ptr _ _ _ _ hb
  · rename_i bi n e' ee he
    split at h <;> try (simp at h; done)
    rename_i hee
    split at h <;> try (simp at h; done)
    rename_i j hj
    simp only [Option.some.injEq, Prod.mk.injEq] at h
    obtain ⟨rfl, rfl⟩ := h
    obtain ⟨c1, c2, rfl, c4⟩ := below_spec hj
    rw [he] at hv
    generalize hX : a.eval x = X at hv
    cases hv with
    | grw _ _ _ _ b c hb _ _ _ _ =>
      refine Done.same hR (hrun b 0 n c k m hX h2 c1 c2) (ℓ := .ret) ?_ rfl
      rw [Nat.zero_add]
      exact .ptr _ _ _ _ hb
  · split at h <;> try (simp at h; done)
    rename_i xs hxs
    split at h <;> try (simp at h; done)
    rename_i j hj
    split at h <;> try (simp at h; done)
    rename_i z hz
    split at h <;> try (simp at h; done)
    rename_i hlen
    simp only [Option.some.injEq, Prod.mk.injEq] at h
    obtain ⟨rfl, rfl⟩ := h
    obtain ⟨c1, c2, rfl, c4⟩ := below_spec hj
    rcases (hv.elems hxs).sl_inv with ⟨rfl, _⟩ | ⟨b, off, c, k', vs, hu, hk, hne, hc, hl, hF, hone, hr⟩
    · simp at c4
    · have hk' : k' = i.size := by rw [← hl z (List.mem_of_getElem? hz)]; exact hlen
      subst hk'
      refine Done.sv hR (hrun b off _ c k m hu h2 c1 c2) (.ref _ b _ (fun j => vs (m.toNat * i.size + j)) (fun j hj => ?_) (fun j x hx => ?_) (fun j x hx => ?_))
      · rw [hlen] at hj
        have := hF (m.toNat * i.size + j) (by
          have h3 : (m.toNat + 1) * i.size ≤ xs.length * i.size := Nat.mul_le_mul_right _ c4
          rw [Nat.add_mul] at h3; omega)
        rw [Nat.add_assoc]; exact this
      · have hjl : j < i.size := by rw [← hlen]; exact (List.getElem?_eq_some_iff.1 hx).1
        exact hone _ x ((flat_get hl hz hjl).trans hx)
      · have hjl : j < i.size := by rw [← hlen]; exact (List.getElem?_eq_some_iff.1 hx).1
        exact hr _ x ((flat_get hl hz hjl).trans hx)

theorem run_isAgg {t : TypeId} {n : Option Nat} (h : aggN P t = some n) : (isAgg t).run P w = .ok n.isSome w ∧ ∃ i, P.info? t = some i ∧ (match n with | some k => i.size = k | none => i.size = 1) := by
  unfold aggN at h
  split at h
  · rename_i fs i h1 h2
    simp only [Option.some.injEq] at h; subst h
    exact ⟨by simp [isAgg, run_underlying h1], i, h2, rfl⟩
  · rename_i n' e i h1 h2
    simp only [Option.some.injEq] at h; subst h
    exact ⟨by simp [isAgg, run_underlying h1], i, h2, rfl⟩
  · rename_i d i n1 n2 h1 h2
    split at h <;> simp only [Option.some.injEq, reduceCtorEq] at h
    rename_i hs
    subst h
    refine ⟨?_, i, h2, hs⟩
    simp only [isAgg, Sem.run_bind, run_underlying h1, Result.andThen_ok]
    cases d <;> first | rfl | (exfalso; exact n1 _ _ h1 h2) | (exfalso; exact n2 _ _ _ h1 h2) | skip
  · simp at h

/-- The cells of a list of values, of which each stands for one. -/
theorem run_part {t : TypeId} {n : Option Nat} (h : aggN P t = some n) {F : Frz} {cs : List SV} {vs : Array Value} (hs : vs.size = cs.length) (ho : ∀ (j : Nat) (x : SV), cs[j]? = some x → x.one = true)
    (hr : ∀ (j : Nat) (x : SV), cs[j]? = some x → RepS F x (vs.getD j undef)) {off : Nat} {v : SV} (hv : takeN n (cs.drop off) = some v) : ∃ u, (part t vs off).run P w = .ok u w ∧ RepS F v u := by
  obtain ⟨h1, i, hi, h2⟩ := run_isAgg (P := P) (w := w) h
  cases n with
  | none =>
    simp only [takeN] at hv
    split at hv <;> simp only [Option.some.injEq, reduceCtorEq] at hv
    rename_i c rest hc
    subst hv
    have h0 : cs[off]? = some c := by
      have : (cs.drop off)[0]? = some c := by rw [hc]; rfl
      rw [List.getElem?_drop] at this; simpa using this
    have hlt : off < vs.size := by rw [hs]; exact (List.getElem?_eq_some_iff.1 h0).1
    have hh := hr off c h0
    simp only [Array.getD_eq_getD_getElem?, Array.getElem?_eq_getElem hlt, Option.getD_some] at hh
    refine ⟨vs[off], ?_, hh⟩
    simp [part, h1, Array.getElem?_eq_getElem hlt]
  | some k =>
    simp only [takeN] at hv
    split at hv <;> simp only [Option.some.injEq, reduceCtorEq] at hv
    rename_i hk
    subst hv
    simp only [List.length_drop] at hk
    have hik : i.size = k := h2
    have hget : ∀ j, j < k → ((cs.drop off).take k)[j]? = cs[off + j]? := fun j hj => by rw [List.getElem?_take, if_pos hj, List.getElem?_drop]
    refine ⟨.agg (vs.extract off (off + k)), ?_, .agg _ _ ?_ (fun j x hx => ?_) (fun j x hx => ?_)⟩
    · simp [part, h1, sizeOf, typeInfo, hi, hik]
    · simp [hs]; omega
    · rw [List.getElem?_map] at hx
      obtain ⟨y, hy, rfl⟩ := Option.map_eq_some_iff.1 hx
      have hjk : j < k := by have := (List.getElem?_eq_some_iff.1 hy).1; simp at this; omega
      rw [hget j hjk] at hy
      exact SV.can0_one (ho _ _ hy)
    · rw [List.getElem?_map] at hx
      obtain ⟨y, hy, rfl⟩ := Option.map_eq_some_iff.1 hx
      have hjk : j < k := by have := (List.getElem?_eq_some_iff.1 hy).1; simp at this; omega
      rw [hget j hjk] at hy
      have hlt : off + j < vs.size := by rw [hs]; exact (List.getElem?_eq_some_iff.1 hy).1
      have hh := (hr _ _ hy).can0
      simp only [Array.getD_eq_getD_getElem?, Array.getElem?_eq_getElem hlt, Option.getD_some] at hh
      have he : (vs.extract off (off + k)).getD j undef = vs[off + j] := by
        simp only [Array.getD_eq_getD_getElem?, Array.getElem?_extract]
        rw [if_pos (by omega), Array.getElem?_eq_getElem hlt]
        rfl
      rw [he]; exact hh

theorem op_fld (hR : R P γ a w s) (hG : GlobOK E γ) {t : TypeId} {fs : Array Field} {f : Nat} {g : Field} {n : Option Nat} {x : Operand} {x' : Opd} (ho : o.op = .field t x f) (ht : P.underlying t = some (.struct fs)) (hf : fs[f]? = some g) (hn : aggN P g.type = some n)
    (hx : opd x = some x') (h : stepV E cf q o.dst s (.fld g.offset n x') = some (av, s1)) : Done P γ a w o av s1 := by
  have hv := ev_rep hR hG hx
  simp only [stepV] at h
  split at h <;> try (simp at h; done)
  rename_i cs hcs
  split at h <;> try (simp at h; done)
  rename_i v hvv
  simp only [Option.some.injEq, Prod.mk.injEq] at h
  obtain ⟨rfl, rfl⟩ := h
  rw [hcs] at hv
  obtain ⟨vs, hu, h1, h2, h3⟩ := hv.sv_inv.agg_inv
  obtain ⟨u, k1, k2⟩ := run_part (P := P) (w := w) hn h1 h2 h3 hvv
  refine Done.sv hR ?_ k2
  simp only [execOp, ho, hu]
  simp [Instr.field, run_underlying ht, hf, asAgg, k1]

theorem op_idxA (hR : R P γ a w s) (hG : GlobOK E γ) {t e : TypeId} {len : Nat} {i : TypeInfo} {n : Option Nat} {x y : Operand} {x' y' : Opd} (ho : o.op = .index t x y) (ht : P.underlying t = some (.array len e)) (hi : P.info? e = some i) (hn : aggN P e = some n)
    (hx : opd x = some x') (hy : opd y = some y') (h : stepV E cf q o.dst s (.idxA len i.size n x' y') = some (av, s1)) : Done P γ a w o av s1 := by
  have hv := ev_rep hR hG hx
  simp only [stepV] at h
  split at h <;> try (simp at h; done)
  rename_i cs k m hcs hm
  split at h <;> try (simp at h; done)
  rename_i j hj
  split at h <;> try (simp at h; done)
  rename_i v hvv
  simp only [Option.some.injEq, Prod.mk.injEq] at h
  obtain ⟨rfl, rfl⟩ := h
  have h2 := (ev_rep hR hG hy).int hm
  obtain ⟨c1, c2, rfl, c4⟩ := below_spec hj
  rw [hcs] at hv
  obtain ⟨vs, hu, g1, g2, g3⟩ := hv.sv_inv.agg_inv
  obtain ⟨u, k1, k2⟩ := run_part (P := P) (w := w) hn g1 g2 g3 hvv
  refine Done.sv hR ?_ k2
  simp only [execOp, ho, hu, h2]
  simp [Instr.index, asIntOf, run_underlying ht, c1, c2, sizeOf, typeInfo, hi, k1]

/-- What lies at an address. -/
theorem cellsAt_rep (hb : BoxesOK P γ w s.bx) {ℓ : Loc} {u : Value} (h : RepA P γ w ℓ av u) {cs : List SV} (e : cellsAt s av = some cs) :
    ∃ (b off : Nat) (vs : Nat → Value), u = .pointer (some ⟨b, off, none⟩) ∧ ∀ (j : Nat) (x : SV), cs[j]? = some x → x.one = true ∧ w.cell? ⟨b, off + j, none⟩ = some (vs j) ∧ RepS γ.F x (vs j) := by
  unfold cellsAt at e
  split at e
  · rename_i cs'
    simp only [Option.some.injEq] at e; subst e
    obtain ⟨b, off, vs, rfl, hF, ho, hr⟩ := h.sv_inv.ref_inv
    exact ⟨b, off, vs, rfl, fun j x hx => ⟨ho j x hx, hb.Fw _ _ _ (hF j (List.getElem?_eq_some_iff.1 hx).1), hr j x hx⟩⟩
  · rename_i i off
    cases h with
    | ptr _ _ blk hblk =>
      split at e
      · rename_i cl hcl
        simp only [Option.some.injEq] at e; subst e
        obtain ⟨arr, t, m, k1, ⟨k2, _⟩, k3, k4⟩ := hb.box i _ blk hcl hblk
        refine ⟨blk, off, fun j => arr.getD (off + j) undef, rfl, fun j x hx => ?_⟩
        rw [List.getElem?_map, List.getElem?_drop] at hx
        obtain ⟨c, hc, rfl⟩ := Option.map_eq_some_iff.1 hx
        have hlt : off + j < arr.size := by have := (List.getElem?_eq_some_iff.1 hc).1; omega
        have hcell : w.cell? ⟨blk, off + j, none⟩ = some (arr.getD (off + j) undef) := by
          rw [cell_of_row w blk (off + j) arr t m k1]
          simp [Array.getD_eq_getD_getElem?, Array.getElem?_eq_getElem hlt]
        have := k3 _ _ hc
        cases c with
        | sv v => exact ⟨this.1, hcell, this.2⟩
        | own e xs => exact ⟨rfl, hcell, RepO.rep this⟩
        | lnk k o =>
          obtain ⟨b, _, e⟩ := this
          refine ⟨rfl, hcell, ?_⟩
          show RepS γ.F (.ref []) (arr.getD (off + j) undef)
          rw [e]
          exact .ref [] b o (fun _ => undef) (by simp) (by simp) (by simp)
        | lrw k n e =>
          obtain ⟨b, c, _, _, e⟩ := this
          refine ⟨rfl, hcell, ?_⟩
          show RepS γ.F .unk (arr.getD (off + j) undef)
          rw [e]
          exact .unk _ rfl rfl
      · rename_i cl hcl
        simp only [Option.some.injEq] at e; subst e
        obtain ⟨_, arr, k2, k3⟩ := hb.box i _ blk hcl hblk
        refine ⟨blk, off, fun j => arr.getD (off + j) undef, rfl, fun j x hx => ?_⟩
        rw [List.getElem?_drop] at hx
        exact ⟨(k3 _ _ hx).1, hb.Fw _ _ _ (k3 _ _ hx).2.1, (k3 _ _ hx).2.2⟩
      · simp at e
  · simp at e

theorem run_loadVar {t : TypeId} {n : Option Nat} (h : aggN P t = some n) {F : Frz} {cs : List SV} {b off : Nat} {vs : Nat → Value}
    (hc : ∀ (j : Nat) (x : SV), cs[j]? = some x → x.one = true ∧ w.cell? ⟨b, off + j, none⟩ = some (vs j) ∧ RepS F x (vs j)) {v : SV} (hv : takeN n cs = some v) :
    ∃ u, (loadVar t ⟨b, off, none⟩).run P w = .ok u w ∧ RepS F v u := by
  obtain ⟨h1, i, hi, h2⟩ := run_isAgg (P := P) (w := w) h
  cases n with
  | none =>
    simp only [takeN] at hv
    split at hv <;> simp only [Option.some.injEq, reduceCtorEq] at hv
    rename_i c rest
    subst hv
    obtain ⟨g1, g2, g3⟩ := hc 0 c rfl
    refine ⟨vs 0, ?_, g3⟩
    rw [Nat.add_zero] at g2
    simp [loadVar, h1, g2]
  | some k =>
    simp only [takeN] at hv
    split at hv <;> simp only [Option.some.injEq, reduceCtorEq] at hv
    rename_i hk
    subst hv
    have hik : i.size = k := h2
    have hl := run_loadCells (P := P) w ⟨b, off, none⟩ k vs (fun j hj => by
      rw [add_none]
      exact (hc j cs[j] (by simp [show j < cs.length by omega])).2.1)
    refine ⟨.agg ((List.range k).map vs).toArray, ?_, .agg _ _ (by simp; omega) (fun j x hx => ?_) (fun j x hx => ?_)⟩
    · simp [loadVar, h1, sizeOf, typeInfo, hi, hik, hl]
    · rw [List.getElem?_map] at hx
      obtain ⟨y, hy, rfl⟩ := Option.map_eq_some_iff.1 hx
      rw [List.getElem?_take] at hy
      split at hy
      · exact SV.can0_one (hc _ _ hy).1
      · simp at hy
    · rw [List.getElem?_map] at hx
      obtain ⟨y, hy, rfl⟩ := Option.map_eq_some_iff.1 hx
      rw [List.getElem?_take] at hy
      split at hy
      · rename_i hj
        have := (hc _ _ hy).2.2.can0
        simpa [Array.getD_eq_getD_getElem?, hj] using this
      · simp at hy

theorem op_loadL (hR : R P γ a w s) (hG : GlobOK E γ) {t : TypeId} {x : Operand} {x' : Opd} (ho : o.op = .load t x) (hn : aggN P t = some none) (hx : opd x = some x')
    (h : stepV E cf q o.dst s (.loadL x') = some (av, s1)) : Done P γ a w o av s1 := by
  simp only [stepV] at h
  split at h <;> try (simp at h; done)
  rename_i cs hcs
  split at h <;> try (simp at h; done)
  rename_i v hvv
  simp only [Option.some.injEq, Prod.mk.injEq] at h
  obtain ⟨rfl, rfl⟩ := h
  obtain ⟨b, off, vs, hu, hc⟩ := cellsAt_rep hR.bx (ev_rep hR hG hx) hcs
  obtain ⟨u, k1, k2⟩ := run_loadVar (P := P) (w := w) hn hc hvv
  refine Done.sv hR ?_ k2
  simp only [execOp, ho, hu]
  simp [Instr.loadAt, Instr.sureAddr, k1]

end Go.Ev
