/- Rows of an argument, opened: what the evaluator reads in them. -/
import Derived.Test.YtkpjijiiegdcaaaGreatDoorMag
import Derived.Test.YtkpjijiiegdcaaaGreatDoorMaq
import Derived.SliceStrings
import Derived.ChangeSlices
set_option linter.unusedSimpArgs false
set_option linter.unusedVariables false
namespace Go.Ev
open Go.Proofs Go.ChangeShapes Go.WideShapes

/-- The cells of a world, all of them. -/
def allC (w : World) : Frz := fun b o v => w.cell? ⟨b, o, none⟩ = some v

theorem spot_none {w : World} {a : Addr} {v : Value} (h : w.cell? a = some v) : a.spot = none := by
  unfold World.cell? at h
  split at h
  · split at h
    · simp at h
    · rename_i hs; simpa using hs
  · simp at h

theorem add_off {b o : Nat} (i : Nat) : (⟨b, o, none⟩ : Addr).add i = ⟨b, o + i, none⟩ := by
  unfold Addr.add
  split
  · rename_i h; subst h; rfl
  · rfl

/-- A slice whose elements take k cells each. -/
theorem rep_slice {w : World} {a : Addr} {len cap k : Nat} {xs : List SV} (hk : 0 < k) (hx : xs.length = len) (hcap : len ≤ cap) (hl : ∀ x ∈ xs, x.cells.length = k)
    (ho : ∀ (j : Nat) (x : SV), (flat xs)[j]? = some x → x.one = true) (hr : ∀ (j : Nat) (x : SV), (flat xs)[j]? = some x → ∃ v, w.cell? (a.add j) = some v ∧ RepS (allC w) x v) : RepS (allC w) (.sl xs) (.slice (some a) len cap) := by
  cases xs with
  | nil => simp only [List.length_nil] at hx; subst hx; exact .slE _ _
  | cons x xs =>
    subst hx
    have hfl : (flat (x :: xs)).length = (x :: xs).length * k := by
      have : ∀ ys : List SV, (∀ y ∈ ys, y.cells.length = k) → (flat ys).length = ys.length * k := by
        intro ys
        induction ys with
        | nil => intro _; simp [flat]
        | cons y ys ih => intro h; rw [flat_cons, List.length_append, ih (fun z hz => h z (by simp [hz])), h y (by simp), List.length_cons, Nat.succ_mul]; omega
      exact this _ hl
    have hpos : 0 < (flat (x :: xs)).length := by rw [hfl]; exact Nat.mul_pos (by simp) hk
    obtain ⟨v0, hv0, _⟩ := hr 0 _ (List.getElem?_eq_getElem hpos)
    have hs : a.spot = none := spot_none (by simpa [Addr.add] using hv0)
    obtain ⟨b, o, s⟩ := a
    simp only at hs
    subst hs
    refine .sl _ b o cap k (fun j => (w.cell? ⟨b, o + j, none⟩).getD undef) hk (by simp) hcap hl (fun j hj => ?_) ho (fun j y hy => ?_)
    · obtain ⟨v, hv, _⟩ := hr j _ (List.getElem?_eq_getElem (by rw [hfl]; exact hj))
      rw [add_off] at hv
      show w.cell? ⟨b, o + j, none⟩ = some _
      rw [hv]; rfl
    · obtain ⟨v, hv, h1⟩ := hr j y hy
      rw [add_off] at hv
      simp only [hv, Option.getD_some]
      exact h1

theorem flat_one {l : List SV} (h : ∀ x ∈ l, x.cells = [x]) : flat l = l := by
  induction l with
  | nil => rfl
  | cons x l ih => rw [flat_cons, h x (by simp), ih (fun y hy => h y (by simp [hy]))]; rfl

section
variable {H : Type} {enc : TypeId × Value → H} {P : Program} {w : World} {base : Nat} {spare : Nat → Bool} {held : Bool}

theorem rep_strs {t e : TypeId} {fuel : Nat} {cs : List Value} {x : DataW H × List MemPlace} (ht : P.underlying t = some (.slice e)) (he : P.underlying e = some .string) (hc : P.cellsOf e = 1)
    (h : DataW.trod enc P w base spare held fuel t cs = some x) : ∃ (v : Value) (S : List (List UInt8)), cs = [v] ∧ RepS (allC w) (.sl (Ev.strs S)) v := by
  rcases open_strings ht he hc h with ⟨rfl, _⟩ | ⟨a, len, cap, ss, rfl, _, hl, _, hss, _, hcell, _⟩
  · exact ⟨_, [], rfl, .slE _ _⟩
  · have hle : len ≤ ss.length := by rw [hss]; split <;> omega
    refine ⟨_, (ss.take len).map (fun s => s.data.toList), rfl, ?_⟩
    have hone : ∀ x ∈ Ev.strs ((ss.take len).map (fun s => s.data.toList)), x.cells = [x] := by
      intro x hx
      simp only [Ev.strs, List.mem_map] at hx
      obtain ⟨_, _, rfl⟩ := hx
      rfl
    refine rep_slice (k := 1) (by omega) (by simp [Ev.strs]; omega) hl (fun x hx => by rw [hone x hx]; rfl) (fun j x hx => ?_) (fun j x hx => ?_)
    · rw [flat_one hone] at hx
      simp only [Ev.strs, List.getElem?_map, Option.map_eq_some_iff] at hx
      obtain ⟨_, _, rfl⟩ := hx
      rfl
    · rw [flat_one hone] at hx
      simp only [Ev.strs, List.getElem?_map, Option.map_eq_some_iff] at hx
      obtain ⟨_, ⟨s, hs, rfl⟩, rfl⟩ := hx
      have hj : j < len := by have := (List.getElem?_eq_some_iff.1 hs).1; simp at this; omega
      rw [List.getElem?_take_of_lt hj] at hs
      refine ⟨_, hcell j (by omega), ?_⟩
      rw [List.getD_eq_getElem?_getD, hs]
      have e : (⟨s.data.toList.toArray⟩ : ByteArray) = s := by simp
      exact e ▸ RepS.str s.data.toList

theorem rep_ints {t e : TypeId} {fuel : Nat} {cs : List Value} {x : DataW H × List MemPlace} (ht : P.underlying t = some (.slice e)) (he : P.underlying e = some (.int .u64)) (hc : P.cellsOf e = 1)
    (h : DataW.trod enc P w base spare held fuel t cs = some x) : ∃ (v : Value) (N : List Nat), cs = [v] ∧ RepS (allC w) (.sl (u64s N)) v ∧ ∀ n ∈ N, n < 18446744073709551616 := by
  rcases open_ints ht he hc h with ⟨rfl, _⟩ | ⟨a, len, cap, zs, rfl, _, hl, _, hss, _, hcell, hwf⟩
  · exact ⟨_, [], rfl, .slE _ _, by simp⟩
  · have hle : len ≤ zs.length := by rw [hss]; split <;> omega
    have hz : ∀ z ∈ zs, 0 ≤ z ∧ z < 18446744073709551616 := by
      intro z hz
      have := hwf z hz
      have e1 : IntKind.u64.min = 0 := rfl
      have e2 : IntKind.u64.max = 18446744073709551615 := rfl
      simp only [Lit.wf, e1, e2, Bool.and_eq_true, decide_eq_true_eq] at this
      omega
    refine ⟨_, (zs.take len).map Int.toNat, rfl, ?_, ?_⟩
    · have hone : ∀ x ∈ u64s ((zs.take len).map Int.toNat), x.cells = [x] := by
        intro x hx
        simp only [u64s, List.mem_map] at hx
        obtain ⟨_, _, rfl⟩ := hx
        rfl
      refine rep_slice (k := 1) (by omega) (by simp [u64s]; omega) hl (fun x hx => by rw [hone x hx]; rfl) (fun j x hx => ?_) (fun j x hx => ?_)
      · rw [flat_one hone] at hx
        simp only [u64s, List.getElem?_map, Option.map_eq_some_iff] at hx
        obtain ⟨_, _, rfl⟩ := hx
        rfl
      · rw [flat_one hone] at hx
        simp only [u64s, List.getElem?_map, Option.map_eq_some_iff] at hx
        obtain ⟨_, ⟨s, hs, rfl⟩, rfl⟩ := hx
        have hj : j < len := by have := (List.getElem?_eq_some_iff.1 hs).1; simp at this; omega
        rw [List.getElem?_take_of_lt hj] at hs
        refine ⟨_, hcell j (by omega), ?_⟩
        rw [List.getD_eq_getElem?_getD, hs]
        have := (hz s (List.mem_of_getElem? hs)).1
        rw [Int.toNat_of_nonneg this]
        exact .int _ _
    · intro n hn
      obtain ⟨z, hz1, rfl⟩ := List.mem_map.1 hn
      have := hz z (List.mem_of_mem_take hz1)
      omega

/-- One row: three cells. -/
theorem rep_row {t te tu : TypeId} {fs : Array Field} {f0 f1 f2 : Field} {fuel : Nat} {cs : List Value} {x : DataW H × List MemPlace} (ht : P.underlying t = some (.struct fs)) (hf0 : fs[0]? = some f0) (hf1 : fs[1]? = some f1) (hf2 : fs[2]? = some f2)
    (o0 : f0.offset = 0) (o1 : f1.offset = 1) (o2 : f2.offset = 2) (c0 : P.cellsOf f0.type = 1) (c1 : P.cellsOf f1.type = 1) (c2 : P.cellsOf f2.type = 1) (ct : P.cellsOf t = 3)
    (u0 : P.underlying f0.type = some .string) (u1 : P.underlying f1.type = some (.slice tu)) (u2 : P.underlying f2.type = some (.slice te)) (v1 : P.underlying tu = some (.int .u64)) (v2 : P.underlying te = some .string) (w1 : P.cellsOf tu = 1) (w2 : P.cellsOf te = 1)
    (h : DataW.trod enc P w base spare held fuel t cs = some x) : ∃ (r : RowD) (a b c : Value), cs = [a, b, c] ∧ RepS (allC w) (.str r.name) a ∧ RepS (allC w) (.sl (u64s r.N)) b ∧ RepS (allC w) (.sl (Ev.strs r.S)) c ∧ ∀ n ∈ r.N, n < 18446744073709551616 := by
  obtain ⟨xs, n, rfl, _, hcl, hxl, hx⟩ := DataW.trod_struct ht h
  rw [ct] at hcl
  match cs, hcl with
  | [a, b, c], _ =>
    have hlt : ∀ {i : Nat} {f : Field}, fs[i]? = some f → i < xs.length := fun hf => by rw [hxl]; exact (Array.getElem?_eq_some_iff.1 hf).1
    have g0 := hx 0 f0 hf0
    have g1 := hx 1 f1 hf1
    have g2 := hx 2 f2 hf2
    rw [List.getElem?_eq_getElem (hlt hf0), o0, c0] at g0
    rw [List.getElem?_eq_getElem (hlt hf1), o1, c1] at g1
    rw [List.getElem?_eq_getElem (hlt hf2), o2, c2] at g2
    simp only [List.drop_zero, List.drop_succ_cons, List.take_succ_cons, List.take_zero] at g0 g1 g2
    obtain ⟨s, e0, _, _⟩ := DataW.trod_string u0 g0
    obtain ⟨b', N, e1, r1, k1⟩ := rep_ints u1 v1 w1 g1
    obtain ⟨c', S, e2, r2⟩ := rep_strs u2 v2 w2 g2
    simp only [List.cons.injEq, and_true] at e0 e1 e2
    subst e0; subst e1; subst e2
    refine ⟨⟨s.data.toList, N, S⟩, _, _, _, rfl, ?_, r1, r2, k1⟩
    have e : (⟨s.data.toList.toArray⟩ : ByteArray) = s := by simp
    exact e ▸ RepS.str s.data.toList

end

theorem row_cells (r : RowD) : r.sv.cells = [.str r.name, .sl (u64s r.N), .sl (Ev.strs r.S)] := rfl

theorem flat_rows_get : ∀ (l : List RowD) (j : Nat) (x : SV), (flat (rowsSV l))[j]? = some x → ∃ r, l[j / 3]? = some r ∧ (r.sv.cells)[j % 3]? = some x
  | [], j, x, h => by simp [rowsSV, flat] at h
  | r :: l, j, x, h => by
    have e : flat (rowsSV (r :: l)) = r.sv.cells ++ flat (rowsSV l) := rfl
    rw [e] at h
    by_cases hj : j < 3
    · rw [List.getElem?_append_left (by rw [row_cells]; simpa using hj)] at h
      refine ⟨r, ?_, ?_⟩
      · rw [Nat.div_eq_of_lt hj]; rfl
      · rw [Nat.mod_eq_of_lt hj]; exact h
    · rw [List.getElem?_append_right (by rw [row_cells]; simp; omega)] at h
      have e3 : r.sv.cells.length = 3 := rfl
      rw [e3] at h
      obtain ⟨q, h1, h2⟩ := flat_rows_get l (j - 3) x h
      refine ⟨q, ?_, ?_⟩
      · rw [show j / 3 = (j - 3) / 3 + 1 by omega]; exact h1
      · rw [show j % 3 = (j - 3) % 3 by omega]; exact h2

/-- Rows, out of rows that can be read one by one. -/
theorem rep_rows {w : World} {a : Addr} {len cap : Nat} {base : Nat} (hcap : len ≤ cap)
    (h : ∀ i, i < len → ∃ (r : RowD) (u v z : Value), w.cells? base (a.add (i * 3)) 3 = some [u, v, z] ∧ RepS (allC w) (.str r.name) u ∧ RepS (allC w) (.sl (u64s r.N)) v ∧ RepS (allC w) (.sl (Ev.strs r.S)) z ∧ ∀ n ∈ r.N, n < 18446744073709551616) :
    ∃ l : List RowD, l.length = len ∧ RepS (allC w) (.sl (rowsSV l)) (.slice (some a) len cap) ∧ ∀ r ∈ l, ∀ n ∈ r.N, n < 18446744073709551616 := by
  classical
  let f : Nat → RowD := fun i => if hi : i < len then Classical.choose (h i hi) else ⟨[], [], []⟩
  have hf : ∀ i (hi : i < len), ∃ (u v z : Value), w.cells? base (a.add (i * 3)) 3 = some [u, v, z] ∧ RepS (allC w) (.str (f i).name) u ∧ RepS (allC w) (.sl (u64s (f i).N)) v ∧ RepS (allC w) (.sl (Ev.strs (f i).S)) z ∧ ∀ n ∈ (f i).N, n < 18446744073709551616 := by
    intro i hi
    have := Classical.choose_spec (h i hi)
    simp only [f, dif_pos hi]
    exact this
  refine ⟨(List.range len).map f, by simp, ?_, ?_⟩
  · refine rep_slice (k := 3) (by omega) (by simp [rowsSV]) hcap (fun x hx => ?_) (fun j x hx => ?_) (fun j x hx => ?_)
    · simp only [rowsSV, List.mem_map] at hx
      obtain ⟨r, _, rfl⟩ := hx
      rfl
    · obtain ⟨r, _, h2⟩ := flat_rows_get _ j x hx
      rw [row_cells] at h2
      have : x ∈ [SV.str r.name, .sl (u64s r.N), .sl (Ev.strs r.S)] := List.mem_of_getElem? h2
      simp only [List.mem_cons, List.not_mem_nil, or_false] at this
      rcases this with rfl | rfl | rfl <;> rfl
    · obtain ⟨r, h1, h2⟩ := flat_rows_get _ j x hx
      rw [List.getElem?_map, Option.map_eq_some_iff] at h1
      obtain ⟨i, hi, rfl⟩ := h1
      have hil : j / 3 < len := by have := (List.getElem?_eq_some_iff.1 hi).1; simpa using this
      have hij : i = j / 3 := by rw [List.getElem?_range hil] at hi; exact (Option.some.inj hi).symm
      subst hij
      obtain ⟨u, v, z, k1, k2, k3, k4, _⟩ := hf (j / 3) hil
      obtain ⟨_, _, k5⟩ := World.cells?_some k1
      have k6 := k5 (j % 3) (by omega)
      have ha : (a.add (j / 3 * 3)).add (j % 3) = a.add j := by
        unfold Addr.add
        by_cases q1 : j / 3 * 3 = 0
        · by_cases q2 : j % 3 = 0
          · have : j = 0 := by omega
            subst this; rfl
          · have : j % 3 = j := by omega
            rw [if_pos q1, this]
        · have q3 : j ≠ 0 := by omega
          by_cases q2 : j % 3 = 0
          · have : j / 3 * 3 = j := by omega
            rw [if_pos q2, this]
          · rw [if_neg q1, if_neg q2, if_neg q3]
            simp only [Addr.mk.injEq, true_and, and_true]
            omega
      rw [ha] at k6
      rw [row_cells] at h2
      have hm : j % 3 < 3 := Nat.mod_lt _ (by omega)
      generalize j % 3 = m at k6 h2 hm
      match m, hm with
      | 0, _ => simp at h2 k6; subst h2; exact ⟨u, k6, k2⟩
      | 1, _ => simp at h2 k6; subst h2; exact ⟨v, k6, k3⟩
      | 2, _ => simp at h2 k6; subst h2; exact ⟨z, k6, k4⟩
  · intro r hr
    obtain ⟨i, hi, rfl⟩ := List.mem_map.1 hr
    obtain ⟨_, _, _, _, _, _, _, k⟩ := hf i (by simpa using hi)
    exact k

end Go.Ev
