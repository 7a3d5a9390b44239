/- Function values, bytes and strings, new rows, what is deferred. -/
/- Appends. -/
/- Texts gone through sign by sign. -/
import Derived.Test.YtgeaomghbiamgaaGreatDoorGac
import Derived.Laws.IdiomStrings
import Derived.Laws.BytesArg
import Derived.Laws.MakeOwn
import Derived.Lib.OthersKept
set_option linter.unusedSimpArgs false
set_option linter.unusedVariables false
namespace Go.Ev
variable {P : Program} {E : Env} {γ : Gh} {a : Act} {w : World} {s : St} {o : Oper} {cf : CallF} {q : Bool} {s1 : St} {av : AV}

theorem mapOpt_spec {α β : Type} {f : α → Option β} : ∀ {xs : List α} {ys : List β}, mapOpt f xs = some ys → ys.length = xs.length ∧ ∀ (j : Nat) (x : α), xs[j]? = some x → ∃ y, ys[j]? = some y ∧ f x = some y
  | [], ys, h => by simp only [mapOpt, Option.some.injEq] at h; subst h; simp
  | x :: xs, ys, h => by
    simp only [mapOpt] at h
    split at h <;> try (simp at h; done)
    rename_i y hy
    split at h <;> simp only [Option.some.injEq, reduceCtorEq] at h
    rename_i ys' hys
    subst h
    obtain ⟨h1, h2⟩ := mapOpt_spec hys
    refine ⟨by simp [h1], fun j z hz => ?_⟩
    cases j with
    | zero => simp only [List.getElem?_cons_zero, Option.some.injEq] at hz; subst hz; exact ⟨y, by simp, hy⟩
    | succ j => simpa using h2 j z (by simpa using hz)

theorem opds_get {os : List Operand} {xs : List Opd} (h : allSome (os.map opd) = some xs) : xs.length = os.length ∧ ∀ (j : Nat) (x : Opd), xs[j]? = some x → ∃ o, os[j]? = some o ∧ opd o = some x := by
  obtain ⟨h1, h2⟩ := allSome_spec h
  refine ⟨by simpa using h1, fun j x hx => ?_⟩
  have hlt : j < os.length := by have := (List.getElem?_eq_some_iff.1 hx).1; rw [h1] at this; simpa using this
  refine ⟨os[j], by simp [hlt], ?_⟩
  have h3 := h2 j x hx
  rw [List.getElem?_map, List.getElem?_eq_getElem hlt] at h3
  simpa using h3

theorem two_args {os : List Operand} {a b : Opd} (h : allSome (os.map opd) = some [a, b]) : ∃ x y, os = [x, y] ∧ opd x = some a ∧ opd y = some b := by
  obtain ⟨hl, h2⟩ := opds_get h
  match os, hl with
  | [x, y], _ =>
    refine ⟨x, y, rfl, ?_, ?_⟩
    · obtain ⟨z, hz, hzo⟩ := h2 0 a rfl
      simp only [List.getElem?_cons_zero, Option.some.injEq] at hz
      subst hz; exact hzo
    · obtain ⟨z, hz, hzo⟩ := h2 1 b rfl
      simp only [List.getElem?_cons_succ, List.getElem?_cons_zero, Option.some.injEq] at hz
      subst hz; exact hzo

theorem args_rep (hR : R P γ a w s) (hG : GlobOK E γ) {os : List Operand} {xs : List Opd} (h : allSome (os.map opd) = some xs) (ℓ : Loc) (j : Nat) (x : AV) (hx : (xs.map fun x => (Opd.ev E s x).arg)[j]? = some x) : x.isOwn = false ∧ ∃ o, os[j]? = some o ∧ RepA P γ w ℓ x (a.eval o) := by
  rw [List.getElem?_map] at hx
  obtain ⟨y, hy, rfl⟩ := Option.map_eq_some_iff.1 hx
  obtain ⟨o, ho, hop⟩ := (opds_get h).2 j y hy
  obtain ⟨k1, k2⟩ := (ev_rep hR hG hop).arg ℓ
  exact ⟨k2, o, ho, k1⟩

theorem map_getD {os : Array Operand} {f : Operand → Value} {j : Nat} {o : Operand} (h : os.toList[j]? = some o) : (os.map f).getD j undef = f o := by
  simp only [Array.getElem?_toList] at h
  simp [Array.getD_eq_getD_getElem?, h]

theorem op_mkF (hR : R P γ a w s) (hG : GlobOK E γ) {f : Nat} {first cap : Array Operand} {l1 l2 : List Opd} (ho : o.op = .makeFunc (.func f) first cap) (h1 : allSome (first.toList.map opd) = some l1) (h2 : allSome (cap.toList.map opd) = some l2)
    (h : stepV E cf q o.dst s (.mkF f l1 l2) = some (av, s1)) : Done P γ a w o av s1 := by
  have hrun : (execOp a.eval o).run P w = .ok (.value (.func (.func f) (first.map a.eval) (cap.map a.eval))) w := by
    simp only [execOp, ho, Instr.makeFunc]; rfl
  simp only [stepV] at h
  split at h <;> simp only [Option.some.injEq, Prod.mk.injEq] at h <;> obtain ⟨rfl, rfl⟩ := h
  · rename_i a' b' ha hb
    obtain ⟨la, ka⟩ := mapOpt_spec ha
    obtain ⟨lb, kb⟩ := mapOpt_spec hb
    have aux : ∀ {os : Array Operand} {l : List Opd} {r : List SV}, allSome (os.toList.map opd) = some l → mapOpt (fun x => argSV (Opd.ev E s x).arg) l = some r → (os.map a.eval).size = r.length ∧ ∀ (j : Nat) (x : SV), r[j]? = some x → RepS γ.F x ((os.map a.eval).getD j undef) := by
      intro os l r hl hr
      obtain ⟨q1, q2⟩ := mapOpt_spec hr
      have q3 := (opds_get hl).1
      refine ⟨by simp [q1, q3], fun j x hx => ?_⟩
      have hj : j < l.length := by rw [← q1]; exact (List.getElem?_eq_some_iff.1 hx).1
      obtain ⟨y, hy, hf⟩ := q2 j l[j] (by simp [hj])
      rw [hx] at hy
      obtain rfl := Option.some.inj hy
      obtain ⟨_, o', ho', hr'⟩ := args_rep hR hG hl .ret j (Opd.ev E s l[j]).arg (by simp [List.getElem?_map, hj])
      rw [map_getD ho']
      unfold argSV at hf
      split at hf <;> simp only [Option.some.injEq, reduceCtorEq] at hf
      subst hf
      rename_i hv
      rw [hv] at hr'
      exact hr'.sv_inv
    obtain ⟨s1, r1⟩ := aux h1 ha
    obtain ⟨s2, r2⟩ := aux h2 hb
    exact Done.sv hR hrun (.fn _ _ _ _ _ s1 s2 r1 r2)
  · have aux : ∀ {os : Array Operand} {l : List Opd}, allSome (os.toList.map opd) = some l → (os.map a.eval).size = (l.map fun x => (Opd.ev E s x).arg).length ∧ ∀ (j : Nat) (x : AV), (l.map fun x => (Opd.ev E s x).arg)[j]? = some x → x.isOwn = false ∧ RepA P γ w .ret x ((os.map a.eval).getD j undef) := by
      intro os l hl
      refine ⟨by simp [(opds_get hl).1], fun j x hx => ?_⟩
      obtain ⟨k1, o', ho', k2⟩ := args_rep hR hG hl .ret j x hx
      rw [map_getD ho']
      exact ⟨k1, k2⟩
    obtain ⟨q1, r1⟩ := aux h1
    obtain ⟨q2, r2⟩ := aux h2
    exact Done.same (ℓ := .ret) hR hrun (.clo _ _ _ _ _ _ q1 q2 (fun j x hx => (r1 j x hx).1) (fun j x hx => (r2 j x hx).1) (fun j x hx => (r1 j x hx).2) (fun j x hx => (r2 j x hx).2)) rfl

/-! ### Strings of bytes -/

theorem bytesSV_get (l : List UInt8) (j : Nat) : (bytesSV l)[j]? = (l[j]?).map fun b => .int .u8 b.toNat := by simp [bytesSV]

theorem flat_bytes (l : List UInt8) : flat (bytesSV l) = bytesSV l := flat_ones (fun j x hx => by
  rw [bytesSV_get] at hx
  obtain ⟨b, _, rfl⟩ := Option.map_eq_some_iff.1 hx
  rfl)

/-- New cells that stay. -/
theorem R.stay_new (hR : R P γ a w s) {w' : World} (hos : w'.os = w.os) (hta : w'.tape = w.tape) (hou : w'.output = w.output) (hsz : w.heap.size ≤ w'.heap.size)
    (hbl : ∀ b, b < w.heap.size → w'.heap[b]? = w.heap[b]?) :
    ∃ γ', Fresh γ w γ' w' ∧ R P γ' a w' s ∧ ∀ b o v, w.heap.size ≤ b → w'.cell? ⟨b, o, none⟩ = some v → γ'.F b o v := by
  let γ' : Gh := { γ with F := fun b o v => γ.F b o v ∨ (w.heap.size ≤ b ∧ w'.cell? ⟨b, o, none⟩ = some v) }
  have hf : Fresh γ w γ' w' := by
    refine ⟨hos, hta, hou, hsz, hbl, fun _ _ _ h => .inl h, fun b o v hb h => ?_, fun b o v h => ?_, rfl, rfl, fun b hb => rfl, fun b ℓ hb ho => ?_⟩
    · rcases h with h | ⟨h, _⟩
      · exact h
      · omega
    · rcases h with h | ⟨_, h⟩
      · have hc := hR.bx.Fw _ _ _ h
        exact (World.cell?_of_block (w := w) (hbl b (lt_of_cell hc))).trans hc
      · exact h
    · have := (hR.bx.ow b ℓ ho).1; omega
  exact ⟨γ', hf, hf.R hR, fun b o v h1 h2 => .inr ⟨h1, h2⟩⟩

theorem op_s2b (hR : R P γ a w s) (hG : GlobOK E γ) {t d e : TypeId} {x : Operand} {x' : Opd} (ho : o.op = .convert t d x) (ht : P.underlying t = some .string) (hd : P.underlying d = some (.slice e)) (he : P.underlying e = some (.int .u8)) (hx : opd x = some x')
    (h : stepV E cf q o.dst s (.s2b x') = some (av, s1)) : Done P γ a w o av s1 := by
  simp only [stepV] at h
  split at h <;> simp only [Option.some.injEq, Prod.mk.injEq, reduceCtorEq] at h
  rename_i l hl
  obtain ⟨rfl, rfl⟩ := h
  have hv := (ev_rep hR hG hx).str hl
  have hsz : (⟨l.toArray⟩ : ByteArray).size = l.length := by simp [ByteArray.size]
  have hrun := run_bytes_of_string (P := P) w t d e ⟨l.toArray⟩ ht hd he
  rw [hsz] at hrun
  generalize hC : bytesRow ⟨l.toArray⟩ (grownCap w l.length 0 e) = C at hrun
  obtain ⟨γ', h1, h2, h3⟩ := R.stay_new (P := P) hR (w' := w.drew.alloc (.cells C e (C.size, C.size + 1))) rfl rfl rfl (by simp) (fun b hb => heap_alloc_old w.drew _ b hb)
  refine ⟨_, _, γ', .inl ?_, h1.ext, h2, .sv _ _ (.slice (some ⟨w.heap.size, 0, none⟩) l.length (grownCap w l.length 0 e)) ?_⟩
  · simp only [execOp, ho, hv, Sem.run_bind, hrun, Result.andThen_ok]; rfl
  · by_cases hne : l = []
    · subst hne; exact .slE _ _
    · have hge : l.length ≤ grownCap w l.length 0 e := grownCap_ge w l.length 0 e
      have hlen : (bytesSV l).length = l.length := by simp [bytesSV]
      have hcell : ∀ j (b : UInt8), l[j]? = some b → (w.drew.alloc (.cells C e (C.size, C.size + 1))).cell? ⟨w.heap.size, 0 + j, none⟩ = some (.int .u8 b.toNat) := by
        intro j b hj
        have hh : (w.drew.alloc (.cells C e (C.size, C.size + 1))).heap[w.heap.size]? = some (.cells C e (C.size, C.size + 1)) := heap_alloc_new w.drew _
        rw [Nat.zero_add, cell_of_row _ _ _ C e _ hh, ← hC]
        have hjl : j < l.length := (List.getElem?_eq_some_iff.1 hj).1
        have := bytesRow_at ⟨l.toArray⟩ (grownCap w l.length 0 e) j (by simpa using hjl)
        rw [this]
        simp only [List.getElem_toArray]
        have := (List.getElem?_eq_some_iff.1 hj).2
        rw [this]
      rw [show Value.slice (some ⟨w.heap.size, 0, none⟩) l.length (grownCap w l.length 0 e) = .slice (some ⟨w.heap.size, 0, none⟩) (bytesSV l).length (grownCap w l.length 0 e) from by rw [hlen]]
      refine .sl _ w.heap.size 0 _ 1 (fun j => .int .u8 ((l.getD j 0).toNat)) (by omega) (by intro e; apply hne; simpa [bytesSV] using e) (by rw [hlen]; exact hge) (fun x hx => ?_) (fun j hj => ?_) (fun j x hx => ?_) (fun j x hx => ?_)
      · obtain ⟨j, hj⟩ := List.getElem?_of_mem hx
        rw [bytesSV_get] at hj
        obtain ⟨b, _, rfl⟩ := Option.map_eq_some_iff.1 hj
        rfl
      · have hjl : j < l.length := by rw [hlen] at hj; omega
        exact h3 _ _ _ (Nat.le_refl _) (by simpa [List.getD_eq_getElem?_getD, hjl] using hcell j l[j] (by simp [hjl]))
      · rw [flat_bytes, bytesSV_get] at hx
        obtain ⟨b, _, rfl⟩ := Option.map_eq_some_iff.1 hx
        rfl
      · rw [flat_bytes, bytesSV_get] at hx
        obtain ⟨b, hb, rfl⟩ := Option.map_eq_some_iff.1 hx
        simp only [List.getD_eq_getElem?_getD, hb, Option.getD_some]
        exact .int _ _

theorem op_s2r (hR : R P γ a w s) (hG : GlobOK E γ) {t d e : TypeId} {x : Operand} {x' : Opd} (ho : o.op = .convert t d x) (ht : P.underlying t = some .string) (hd : P.underlying d = some (.slice e)) (he : P.underlying e = some (.int .u8)) (hx : opd x = some x')
    (h : stepV E cf q o.dst s (.s2r x') = some (av, s1)) : Done P γ a w o av s1 := by
  simp only [stepV] at h
  split at h <;> try (simp at h; done)
  rename_i l hl
  have hv := (ev_rep hR hG hx).str hl
  have hsz : (⟨l.toArray⟩ : ByteArray).size = l.length := by simp [ByteArray.size]
  have hrun := run_bytes_of_string (P := P) w t d e ⟨l.toArray⟩ ht hd he
  rw [hsz] at hrun
  generalize hC : bytesRow ⟨l.toArray⟩ (grownCap w l.length 0 e) = C at hrun
  split at h
  rotate_left
  · rename_i hq
    simp only [Option.some.injEq, Prod.mk.injEq] at h
    obtain ⟨rfl, rfl⟩ := h
    have hge : l.length ≤ grownCap w l.length 0 e := grownCap_ge w l.length 0 e
    have hCs : C.size = grownCap w l.length 0 e := by rw [← hC]; simp [bytesRow]; rw [hsz]; omega
    have hf : Fresh γ w γ (w.drew.alloc (.cells C e (C.size, C.size + 1))) := by
      refine ⟨rfl, rfl, rfl, by simp, fun b hb => heap_alloc_old w.drew _ b hb, fun _ _ _ h => h, fun _ _ _ _ h => h, fun b o' v h => ?_, rfl, rfl, fun _ _ => rfl, fun b ℓ hl ho => by have := (hR.bx.ow b ℓ ho).1; omega⟩
      have hc := hR.bx.Fw _ _ _ h
      exact (World.cell?_of_block (w := w) (heap_alloc_old w.drew _ b (lt_of_cell hc))).trans hc
    have hnF : ∀ o v, ¬ γ.F w.heap.size o v := fun o v h => by have := lt_of_cell (hR.bx.Fw _ _ _ h); omega
    have hnβ : w.heap.size ∉ γ.β := fun h => by have := hR.bx.β_lt h; omega
    have hno : γ.ow w.heap.size = none := by
      cases h : γ.ow w.heap.size with
      | none => rfl
      | some ℓ => have := (hR.bx.ow _ _ h).1; omega
    have hlen : (bytesSV l).length = l.length := by simp [bytesSV]
    have hadd := (hf.R hR).addBox (blk := w.heap.size) (arr := C) (t := e) (m := (C.size, C.size + 1)) (heap_alloc_new w.drew _) (fun j hj => absurd (List.mem_of_getElem? hj) hnβ) hno hnF (bytesSV l) (by omega) (fun j hj hm => by simp only at hm; omega) (fun j x hx => by
      rw [bytesSV_get] at hx
      obtain ⟨b, hb, rfl⟩ := Option.map_eq_some_iff.1 hx
      refine ⟨rfl, ?_⟩
      have hjl : j < l.length := (List.getElem?_eq_some_iff.1 hb).1
      have h4 := bytesRow_at ⟨l.toArray⟩ (grownCap w l.length 0 e) j (by simpa using hjl)
      have h5 : C.getD j undef = .int .u8 b.toNat := by
        rw [Array.getD_eq_getD_getElem?, ← hC, h4]
        simp only [List.getElem_toArray, Option.getD_some]
        rw [(List.getElem?_eq_some_iff.1 hb).2]
      rw [h5]
      exact .int _ _)
    refine ⟨_, _, _, .inl ?_, ?_, hadd, .mrow _ _ _ _ w.heap.size (grownCap w l.length 0 e) ?_ hge⟩
    · simp only [execOp, ho, hv, Sem.run_bind, hrun, Result.andThen_ok]; rfl
    · have he := hf.ext
      exact ⟨he.os, he.tape, he.output, he.size, he.F, ⟨[w.heap.size], rfl, by simp⟩, he.blk, he.Fnew, he.own, he.sh⟩
    · rw [List.getElem?_append_right (by rw [hR.bx.len]; omega), hR.bx.len]; simp
  simp only [Option.some.injEq, Prod.mk.injEq] at h
  obtain ⟨rfl, rfl⟩ := h
  obtain ⟨γ', h1, h2, h3⟩ := R.stay_new (P := P) hR (w' := w.drew.alloc (.cells C e (C.size, C.size + 1))) rfl rfl rfl (by simp) (fun b hb => heap_alloc_old w.drew _ b hb)
  refine ⟨_, _, γ', .inl ?_, h1.ext, h2, .sv _ _ (.slice (some ⟨w.heap.size, 0, none⟩) l.length (grownCap w l.length 0 e)) ?_⟩
  · simp only [execOp, ho, hv, Sem.run_bind, hrun, Result.andThen_ok]; rfl
  · by_cases hne : l = []
    · subst hne; exact .slE _ _
    · have hge : l.length ≤ grownCap w l.length 0 e := grownCap_ge w l.length 0 e
      have hlen : (bytesSV l).length = l.length := by simp [bytesSV]
      have hcell : ∀ j (b : UInt8), l[j]? = some b → (w.drew.alloc (.cells C e (C.size, C.size + 1))).cell? ⟨w.heap.size, 0 + j, none⟩ = some (.int .u8 b.toNat) := by
        intro j b hj
        have hh : (w.drew.alloc (.cells C e (C.size, C.size + 1))).heap[w.heap.size]? = some (.cells C e (C.size, C.size + 1)) := heap_alloc_new w.drew _
        rw [Nat.zero_add, cell_of_row _ _ _ C e _ hh, ← hC]
        have hjl : j < l.length := (List.getElem?_eq_some_iff.1 hj).1
        have := bytesRow_at ⟨l.toArray⟩ (grownCap w l.length 0 e) j (by simpa using hjl)
        rw [this]
        simp only [List.getElem_toArray]
        have := (List.getElem?_eq_some_iff.1 hj).2
        rw [this]
      rw [show Value.slice (some ⟨w.heap.size, 0, none⟩) l.length (grownCap w l.length 0 e) = .slice (some ⟨w.heap.size, 0, none⟩) (bytesSV l).length (grownCap w l.length 0 e) from by rw [hlen]]
      refine .sl _ w.heap.size 0 _ 1 (fun j => .int .u8 ((l.getD j 0).toNat)) (by omega) (by intro e; apply hne; simpa [bytesSV] using e) (by rw [hlen]; exact hge) (fun x hx => ?_) (fun j hj => ?_) (fun j x hx => ?_) (fun j x hx => ?_)
      · obtain ⟨j, hj⟩ := List.getElem?_of_mem hx
        rw [bytesSV_get] at hj
        obtain ⟨b, _, rfl⟩ := Option.map_eq_some_iff.1 hj
        rfl
      · have hjl : j < l.length := by rw [hlen] at hj; omega
        exact h3 _ _ _ (Nat.le_refl _) (by simpa [List.getD_eq_getElem?_getD, hjl] using hcell j l[j] (by simp [hjl]))
      · rw [flat_bytes, bytesSV_get] at hx
        obtain ⟨b, _, rfl⟩ := Option.map_eq_some_iff.1 hx
        rfl
      · rw [flat_bytes, bytesSV_get] at hx
        obtain ⟨b, hb, rfl⟩ := Option.map_eq_some_iff.1 hx
        simp only [List.getD_eq_getElem?_getD, hb, Option.getD_some]
        exact .int _ _

theorem svBytes_spec : ∀ {xs : List SV} {l : List UInt8}, svBytes xs = some l → ∃ ns : List Int, xs = ns.map (SV.int .u8) ∧ l = ns.map fun n => UInt8.ofNat n.toNat
  | [], l, h => by simp only [svBytes, Option.some.injEq] at h; subst h; exact ⟨[], rfl, rfl⟩
  | x :: xs, l, h => by
    unfold svBytes at h
    split at h
    · simp_all
    · rename_i n rest heq
      simp only [List.cons.injEq] at heq
      obtain ⟨rfl, rfl⟩ := heq
      split at h <;> simp only [Option.some.injEq, reduceCtorEq] at h
      rename_i l' hl
      subst h
      obtain ⟨ns, rfl, rfl⟩ := svBytes_spec hl
      exact ⟨n :: ns, rfl, rfl⟩
    · simp at h

theorem op_b2s (hR : R P γ a w s) (hG : GlobOK E γ) {t d e : TypeId} {x : Operand} {x' : Opd} (ho : o.op = .convert t d x) (ht : P.underlying t = some (.slice e)) (hd : P.underlying d = some .string) (he : P.underlying e = some (.int .u8)) (hx : opd x = some x')
    (h : stepV E cf q o.dst s (.b2s x') = some (av, s1)) : Done P γ a w o av s1 := by
  simp only [stepV] at h
  split at h <;> try (simp at h; done)
  rename_i xs s2 hxs
  obtain ⟨γ1, g1, g2, g3, _, _, _, _⟩ := sink_ok hR (ev_rep hR hG hx) (sinkQ_sink hxs)
  split at h <;> simp only [Option.some.injEq, Prod.mk.injEq, reduceCtorEq] at h
  rename_i l hl
  obtain ⟨rfl, rfl⟩ := h
  obtain ⟨ns, rfl, rfl⟩ := svBytes_spec hl
  have hfl : flat (ns.map (SV.int .u8)) = ns.map (SV.int .u8) := flat_ones (fun j x hx => by
    rw [List.getElem?_map] at hx
    obtain ⟨b, _, rfl⟩ := Option.map_eq_some_iff.1 hx
    rfl)
  refine ⟨.string ⟨(ns.map fun n => UInt8.ofNat n.toNat).toArray⟩, w, γ1, .inl ?_, g2, g1, .sv _ _ _ (.str _)⟩
  rcases g3.sl_inv with ⟨hnil, p, c, hu⟩ | ⟨b, off, c, k, vs, hu, hk, hne, hc, hlk, hF, _, hr⟩
  · have : ns = [] := by simpa using hnil
    subst this
    simp only [execOp, ho, hu, Sem.run_bind]
    rw [run_convert_bytes_string w t d e p 0 c ht he hd]
    cases p <;> simp [Conv.bytesToString, loadCells, loadCellsFrom] <;> rfl
  · rw [List.length_map] at hu hF hc
    obtain ⟨n0, hn0⟩ : ∃ n0, ns[0]? = some n0 := by
      cases ns with
      | nil => simp at hne
      | cons n ns => exact ⟨n, rfl⟩
    have hk1 : k = 1 := by
      have := hlk (.int .u8 n0) (List.mem_map.2 ⟨n0, List.mem_of_getElem? hn0, rfl⟩)
      simpa [SV.cells] using this.symm
    subst hk1
    have hcell : ∀ i, i < ns.length → w.cell? ⟨b, off + i, none⟩ = some (.int .u8 (ns.getD i 0)) := by
      intro i hi
      have h1 := g1.bx.Fw _ _ _ (hF i (by omega))
      have h2 := hr i (.int .u8 ns[i]) (by rw [hfl]; simp [hi])
      generalize vs i = vi at h1 h2
      cases h2
      simpa [List.getD_eq_getElem?_getD, hi] using h1
    have hrun := run_convert_bytes_arg (P := P) w t e ht he b off ns.length c ns rfl hcell d hd
    simp only [execOp, ho, hu, Sem.run_bind, hrun, Result.andThen_ok]
    rfl

/-! ### New rows -/

theorem replicate_get {zero : List SV} {e : Nat} (hz : zero.length = e) (n j : Nat) (x : SV) (h : ((List.replicate n zero).flatten)[j]? = some x) : j < n * e ∧ zero[j % e]? = some x := by
  induction n generalizing j with
  | zero => simp at h
  | succ n ih =>
    rw [List.replicate_succ, List.flatten_cons] at h
    by_cases hj : j < e
    · rw [List.getElem?_append_left (by omega)] at h
      refine ⟨by rw [Nat.add_mul]; omega, ?_⟩
      rw [Nat.mod_eq_of_lt hj]; exact h
    · rw [List.getElem?_append_right (by omega), hz] at h
      obtain ⟨h1, h2⟩ := ih (j - e) h
      refine ⟨by rw [Nat.add_mul]; omega, ?_⟩
      rw [← h2]
      congr 1
      exact Nat.mod_eq_sub_mod (by omega)

theorem op_mkR (hR : R P γ a w s) (hG : GlobOK E γ) {t e : TypeId} {k b : Nat} {z : List SV} {l c : Operand} {l' : Opd} (ho : o.op = .makeSlice t l c) (ht : P.underlying t = some (.slice e)) (hs : sizeB P e = some (k, b)) (hz : zeroSV P e = some z) (hk : 0 < k) (hl : opd l = some l') (hc : opd c = some l')
    (h : stepV E cf q o.dst s (.mkR k b z l') = some (av, s1)) : Done P γ a w o av s1 := by
  simp only [stepV] at h
  split at h <;> try (simp at h; done)
  split at h <;> try (simp at h; done)
  rename_i kd n hn
  split at h <;> simp only [Option.some.injEq, Prod.mk.injEq, reduceCtorEq] at h
  rename_i hb
  obtain ⟨h0, hby, h63, hzl⟩ := hb
  obtain ⟨rfl, rfl⟩ := h
  have hv1 := (ev_rep hR hG hl).int hn
  have hv2 := (ev_rep hR hG hc).int hn
  simp only [sizeB, Option.map_eq_some_iff, Prod.mk.injEq] at hs
  obtain ⟨ie, hie, hsz, hbb⟩ := hs
  unfold zeroSV at hz
  rw [hie] at hz
  simp only at hz
  split at hz <;> try (simp at hz; done)
  rename_i zv hzv
  obtain ⟨q1, q2⟩ := allSome_spec hz
  have hzs : zv.cells.size = k := by
    have : z.length = zv.cells.size := by simpa using q1
    omega
  obtain ⟨m, rfl⟩ := Int.eq_ofNat_of_zero_le h0
  have hrun := run_make (P := P) w t e ie zv ht hie hzv kd kd (m : Int) (m : Int) (by omega) (Int.le_refl _) (by rw [hbb, Int.mul_comm]; omega) (by omega)
  simp only [Int.toNat_natCast, hsz] at hrun
  have hrep : ∀ (j : Nat) (x : SV), ((List.replicate m z).flatten)[j]? = some x → x.one = true ∧ RepS γ.F x ((madeCells zv.cells (m * k)).getD j undef) := by
    intro j x hx
    obtain ⟨r1, r2⟩ := replicate_get (e := k) hzl m j x hx
    have hjk : j % k < k := Nat.mod_lt _ hk
    have h3 := q2 (j % k) x r2
    have hcell : (madeCells zv.cells (m * k)).getD j undef = zv.cells[j % k]'(by omega) := by
      simp only [Array.getD_eq_getD_getElem?, madeCells]
      simp [r1, hzs, hjk]
    rw [hcell]
    rw [List.getElem?_map] at h3
    simp only [Array.getElem?_toList, Array.getElem?_eq_getElem (show j % k < zv.cells.size by omega), Option.map_some, Option.some.injEq] at h3
    refine ⟨?_, constSV_rep h3⟩
    have : (constSV (zv.cells[j % k]'(by omega))) = some x := h3
    unfold constSV at this
    split at this <;> simp only [Option.some.injEq, reduceCtorEq] at this <;> subst this <;> rfl
  obtain ⟨γ', g1, g2, g3, g4⟩ := hR.push (madeCells zv.cells (m * k)) e ((List.replicate m z).flatten) (by rw [size_madeCells]; simp [hzl]) hrep
  refine ⟨_, _, γ', .inl ?_, g2, g1, .mrow _ _ _ _ _ _ g3 (Nat.le_refl _)⟩
  simp only [execOp, ho, hv1, hv2, Sem.run_bind, hrun, Result.andThen_ok]
  rfl

theorem op_mkC (hR : R P γ a w s) (hG : GlobOK E γ) {t e : TypeId} {k b : Nat} {k1 : IntKind} {c : Operand} {c' : Opd} (ho : ∃ l, o.op = .makeSlice t l c ∧ opd l = some (.c (.int k1 0))) (ht : P.underlying t = some (.slice e)) (hs : sizeB P e = some (k, b)) (hz : (zeroSV P e).isSome = true) (hk : 0 < k) (hc : opd c = some c')
    (h : stepV E cf q o.dst s (.mkC e k b c') = some (av, s1)) : Done P γ a w o av s1 := by
  obtain ⟨l, ho, hl⟩ := ho
  simp only [stepV] at h
  split at h <;> try (simp at h; done)
  rename_i kd n hn
  split at h <;> simp only [Option.some.injEq, Prod.mk.injEq, reduceCtorEq] at h
  rename_i hb
  obtain ⟨h0, hby, h63⟩ := hb
  obtain ⟨rfl, rfl⟩ := h
  have hv1 := (ev_rep hR hG hl).int (av := .sv (.int k1 0)) rfl
  have hv2 := (ev_rep hR hG hc).int hn
  simp only [sizeB, Option.map_eq_some_iff, Prod.mk.injEq] at hs
  obtain ⟨ie, hie, hsz, hbb⟩ := hs
  unfold zeroSV at hz
  rw [hie] at hz
  simp only at hz
  split at hz <;> try (simp at hz; done)
  rename_i zv hzv
  have hke : P.cellsOf e = k := by simp [Program.cellsOf, hie, hsz]
  obtain ⟨m, rfl⟩ := Int.eq_ofNat_of_zero_le h0
  have hmb : ((m * b : Nat) : Int) ≤ 70368744177664 := by simpa using hby
  obtain ⟨w', hrun, hO, hgr⟩ := run_make_own (P := P) w 0 t e ie zv k ht hie hzv hsz k1 kd m (by rw [hbb, Nat.mul_comm]; omega) (by simp only [maxLen]; omega) (Nat.zero_le _)
  obtain ⟨γ', g1, g2, g3⟩ := R.own_new (P := P) (γ := γ) (xs := []) hR hgr.os hgr.tape hgr.output hgr.size (fun b hb => hgr.block b hb (by simp)) (by rw [hke]; exact hO) (by rw [hke]; exact hk) (by simp) (by simp [flat]) (g := w.heap.size) rfl (Nat.le_refl _)
  refine ⟨_, _, γ', .inl ?_, g1.ext, g2, .own _ _ _ _ g3⟩
  simp only [execOp, ho, hv1, hv2, Sem.run_bind, hrun, Result.andThen_ok]
  rfl

/-! ### Calls' targets -/

theorem target_rep {ℓ : Loc} {u : Value} (h : RepA P γ w ℓ av u) {f : Nat} {first cap : List AV} (ht : target av = some (f, first, cap)) :
    ∃ va vb, u = .func (.func f) va vb ∧ va.size = first.length ∧ vb.size = cap.length ∧ (∀ (j : Nat) (x : AV), first[j]? = some x → x.isOwn = false ∧ RepA P γ w .ret x (va.getD j undef)) ∧ ∀ (j : Nat) (x : AV), cap[j]? = some x → x.isOwn = false ∧ RepA P γ w .ret x (vb.getD j undef) := by
  unfold target at ht
  split at ht <;> simp only [Option.some.injEq, Prod.mk.injEq, reduceCtorEq] at ht
  · rename_i f' a' b'
    obtain ⟨rfl, rfl, rfl⟩ := ht
    generalize hav : AV.sv (SV.fn f' a' b') = x at h
    cases h with
    | sv v u h =>
      simp only [AV.sv.injEq] at hav
      subst hav
      cases h with
      | fn _ _ _ va vb ha hb ra rb =>
        refine ⟨va, vb, rfl, by simpa using ha, by simpa using hb, fun j x hx => ?_, fun j x hx => ?_⟩
        · rw [List.getElem?_map] at hx
          obtain ⟨y, hy, rfl⟩ := Option.map_eq_some_iff.1 hx
          exact ⟨rfl, .sv _ _ _ (ra j y hy)⟩
        · rw [List.getElem?_map] at hx
          obtain ⟨y, hy, rfl⟩ := Option.map_eq_some_iff.1 hx
          exact ⟨rfl, .sv _ _ _ (rb j y hy)⟩
    | _ => simp at hav
  · rename_i f' a' b'
    obtain ⟨rfl, rfl, rfl⟩ := ht
    cases h with
    | clo _ _ _ va vb ha hb oa ob ra rb =>
      exact ⟨va, vb, rfl, ha, hb, fun j x hx => ⟨oa j x hx, (ra j x hx).keepN (oa j x hx) (fun _ _ _ h => h) (fun _ _ h => h)⟩, fun j x hx => ⟨ob j x hx, (rb j x hx).keepN (ob j x hx) (fun _ _ _ h => h) (fun _ _ h => h)⟩⟩

end Go.Ev

set_option linter.unusedSimpArgs false
set_option linter.unusedVariables false
namespace Go.Ev
variable {P : Program} {E : Env} {γ : Gh} {a : Act} {w : World} {s : St} {o : Oper} {cf : CallF} {q : Bool} {s1 : St} {av : AV}

/-- What a cell owned is handed on. -/
theorem R.disownCell (hR : R P γ a w s) {i off blk : Nat} {cs : List Cell} {e : Nat} {ys : List SV} (hi : s.bx[i]? = some (.live cs)) (hk : γ.β[i]? = some blk) (hc : cs[off]? = some (.own e ys)) :
    ∃ u, w.cell? ⟨blk, off, none⟩ = some u ∧ R P (γ.mv (.cell i off) .ret) a w { s with bx := s.bx.set i (.live (cs.set off (.sv (.sl ys)))), lz := none } ∧ RepA P (γ.mv (.cell i off) .ret) w .ret (.own e ys) u := by
  have hilt : i < s.bx.length := (List.getElem?_eq_some_iff.1 hi).1
  have hoff : off < cs.length := (List.getElem?_eq_some_iff.1 hc).1
  obtain ⟨arr, t, m, k1, ⟨k2, kf⟩, k3, k4⟩ := hR.bx.box i _ blk hi hk
  have hO : RepO P γ w (.cell i off) e ys (arr.getD off undef) := k3 off _ hc
  refine ⟨arr.getD off undef, ?_, ⟨⟨by simp [Gh.mv, hR.bx.len], ?_, nodup_set hR.bx.nodup hi (by simp), hR.bx.Fw, ?_, hR.bx.sh⟩, hR.sz, fun t' ht => (hR.tm t' ht).mv_other (by simp), by simp, hR.dl, ?_⟩, RepA.mv_same (.own _ _ _ _ hO)⟩
  · rw [cell_of_row w blk off arr t m k1, Array.getD_eq_getD_getElem?, Array.getElem?_eq_getElem (by omega)]
    rfl
  · intro i' b' blk' hi' hk'
    rw [List.getElem?_set] at hi'
    split at hi'
    · rename_i e'
      subst e'
      simp only [hilt, if_true, Option.some.injEq] at hi'
      subst hi'
      have : blk' = blk := by have h := hk'.symm.trans hk; simpa using h
      subst this
      refine ⟨arr, t, m, k1, ⟨by simpa using k2, by simpa using kf⟩, fun j c hc' => ?_, k4⟩
      rw [List.getElem?_set] at hc'
      split at hc'
      · rename_i ej
        subst ej
        simp only [hoff, if_true, Option.some.injEq] at hc'
        subst hc'
        exact ⟨rfl, show RepS γ.F _ _ from hO.rep⟩
      · rename_i ej
        exact (k3 j c hc').keep (fun _ _ _ h => h) (fun g _ hg => ⟨rfl, fun _ _ h => h, Gh.mv_other (by simp; omega) hg⟩) (by intro i b h; exact h)
    · rename_i e'
      exact (hR.bx.box i' b' blk' hi' hk').keep (fun _ _ _ h => h) rfl (fun _ _ h => h) (fun g j hg => ⟨rfl, fun _ _ h => h, Gh.mv_other (by simp; omega) hg⟩) (by intro i b h; exact h)
  · intro b ℓ ho
    simp only [Gh.mv] at ho
    split at ho
    · rename_i e'; exact hR.bx.ow b _ e'
    · exact hR.bx.ow b _ ho
  · intro j d c hd hc'
    exact hR.df j d c hd hc'

theorem R.noLz (hR : R P γ a w s) : R P γ a w { s with lz := none } := ⟨hR.bx, hR.sz, hR.tm, by simp, hR.dl, hR.df⟩

theorem own_lt {t e : Nat} {ys : List SV} (h : s.rd t = .own e ys) : t < s.tm.length := by
  refine Decidable.byContradiction fun hn => ?_
  simp only [St.rd, List.getD_eq_getElem?_getD] at h
  rw [List.getElem?_eq_none (by omega)] at h
  simp at h

theorem nil0_lt {t : Nat} (h : s.rd t = .sv .nil0) : t < s.tm.length := by
  refine Decidable.byContradiction fun hn => ?_
  simp only [St.rd, List.getD_eq_getElem?_getD] at h
  rw [List.getElem?_eq_none (by omega)] at h
  simp at h

theorem nil_lt {t : Nat} (h : s.rd t = .sv .nilS) : t < s.tm.length := by
  refine Decidable.byContradiction fun hn => ?_
  simp only [St.rd, List.getD_eq_getElem?_getD] at h
  rw [List.getElem?_eq_none (by omega)] at h
  simp at h


/-- What an append appends onto. -/
theorem appBase_ok (hR : R P γ a w s) (hG : GlobOK E γ) {x : Operand} {x' : Opd} (hx : opd x = some x') {ys : List SV} {e' : Option Nat} {s' : St}
    (h : appBase E s (srcOf x) x' = some (ys, e', s')) :
    ∃ γ', R P γ' a w s' ∧ Ext γ w γ' w ∧ γ'.F = γ.F ∧ ((e' = none ∧ ys = [] ∧ ∃ p, a.eval x = .slice p 0 0) ∨ ∃ e, e' = some e ∧ RepA P γ' w .ret (.own e ys) (a.eval x)) := by
  have hnil : ∀ {ℓ : Loc} {u : Value}, RepA P γ w ℓ (.sv .nilS) u → ∃ p, u = .slice p 0 0 := fun h => by have := h.sv_inv; cases this; exact ⟨_, rfl⟩
  have hnil0 : ∀ {ℓ : Loc} {u : Value}, RepA P γ w ℓ (.sv .nil0) u → ∃ p, u = .slice p 0 0 := fun h => by have := h.sv_inv; cases this; exact ⟨_, rfl⟩
  cases x with
  | tmp t =>
    simp only [opd, Option.some.injEq] at hx; subst hx
    simp only [Act.eval]
    unfold appBase srcOf at h
    simp only at h
    split at h
    · rename_i t0 t' ℓ hd hlz
      simp only [Option.some.injEq] at hd; subst hd
      split at h <;> try (simp at h; done)
      rename_i ett
      subst ett
      have hat := hR.lz t ℓ hlz
      split at h <;> try (simp at h; done)
      · rename_i u
        have hat' : a.tmps.getD u undef = a.tmps.getD t undef := hat
        split at h <;> simp only [Option.some.injEq, Prod.mk.injEq, reduceCtorEq] at h <;> obtain ⟨rfl, rfl, rfl⟩ := h
        · rename_i e ys hrd
          obtain ⟨r1, r2⟩ := hR.disown (own_lt hrd)
          rw [hrd, hat'] at r2
          exact ⟨_, r1.noLz, Gh.mv_ext _ _ _ _, rfl, .inr ⟨e, rfl, r2⟩⟩
        · rename_i hrd
          refine ⟨γ, hR.noLz, Ext.refl _ _, rfl, .inl ⟨rfl, rfl, ?_⟩⟩
          have hu := nil_lt hrd
          rw [← hat']
          exact hnil (hrd ▸ hR.tm u hu)
        · rename_i hrd
          refine ⟨γ, hR.noLz, Ext.refl _ _, rfl, .inl ⟨rfl, rfl, ?_⟩⟩
          have hu := nil0_lt hrd
          rw [← hat']
          exact hnil0 (hrd ▸ hR.tm u hu)
      · rename_i i off
        obtain ⟨blk, hb, hc⟩ := hat
        split at h <;> try (simp at h; done)
        rename_i cs hcs
        split at h <;> simp only [Option.some.injEq, Prod.mk.injEq, reduceCtorEq] at h <;> obtain ⟨rfl, rfl, rfl⟩ := h
        · rename_i e ys hcell
          obtain ⟨u, q1, q2, q3⟩ := hR.disownCell hcs hb hcell
          rw [hc] at q1
          rw [Option.some.inj q1]
          exact ⟨_, q2, Gh.mv_ext _ _ _ _, rfl, .inr ⟨e, rfl, q3⟩⟩
        · rename_i hcell
          refine ⟨γ, hR.noLz, Ext.refl _ _, rfl, .inl ⟨rfl, rfl, ?_⟩⟩
          obtain ⟨arr, ty, m, k1, ⟨k2, _⟩, k3, k4⟩ := hR.bx.box i _ blk hcs hb
          have h3 := k3 off _ hcell
          have hlt : off < arr.size := by have := (List.getElem?_eq_some_iff.1 hcell).1; omega
          rw [cell_of_row w blk off arr ty m k1, Array.getElem?_eq_getElem hlt] at hc
          rw [← Option.some.inj hc]
          have h4 := h3.2
          rw [Array.getD_eq_getD_getElem?, Array.getElem?_eq_getElem hlt] at h4
          simp only [Option.getD_some] at h4
          generalize arr[off] = y at h4
          cases h4; exact ⟨_, rfl⟩
        · rename_i hcell
          refine ⟨γ, hR.noLz, Ext.refl _ _, rfl, .inl ⟨rfl, rfl, ?_⟩⟩
          obtain ⟨arr, ty, m, k1, ⟨k2, _⟩, k3, k4⟩ := hR.bx.box i _ blk hcs hb
          have h3 := k3 off _ hcell
          have hlt : off < arr.size := by have := (List.getElem?_eq_some_iff.1 hcell).1; omega
          rw [cell_of_row w blk off arr ty m k1, Array.getElem?_eq_getElem hlt] at hc
          rw [← Option.some.inj hc]
          have h4 := h3.2
          rw [Array.getD_eq_getD_getElem?, Array.getElem?_eq_getElem hlt] at h4
          simp only [Option.getD_some] at h4
          generalize arr[off] = y at h4
          cases h4; exact ⟨_, rfl⟩
    · rename_i t0 hd hlz
      simp only [Option.some.injEq] at hd; subst hd
      split at h <;> simp only [Option.some.injEq, Prod.mk.injEq, reduceCtorEq] at h <;> obtain ⟨rfl, rfl, rfl⟩ := h
      · rename_i e ys hrd
        obtain ⟨r1, r2⟩ := hR.disown (own_lt hrd)
        rw [hrd] at r2
        exact ⟨_, r1, Gh.mv_ext _ _ _ _, rfl, .inr ⟨e, rfl, r2⟩⟩
      · rename_i hrd
        refine ⟨γ, hR, Ext.refl _ _, rfl, .inl ⟨rfl, rfl, ?_⟩⟩
        have hu := nil_lt hrd
        exact hnil (hrd ▸ hR.tm t hu)
      · rename_i hrd
        refine ⟨γ, hR, Ext.refl _ _, rfl, .inl ⟨rfl, rfl, ?_⟩⟩
        have hu := nil0_lt hrd
        exact hnil0 (hrd ▸ hR.tm t hu)
    · simp at *
  | _ =>
    unfold appBase srcOf at h
    simp only at h
    split at h <;> try (simp at h; done)
    · rename_i hxe
      simp only [Option.some.injEq, Prod.mk.injEq] at h
      obtain ⟨rfl, rfl, rfl⟩ := h
      exact ⟨γ, hR, Ext.refl _ _, rfl, .inl ⟨rfl, rfl, hnil (hxe ▸ ev_rep hR hG hx)⟩⟩
    · rename_i hxe
      simp only [Option.some.injEq, Prod.mk.injEq] at h
      obtain ⟨rfl, rfl, rfl⟩ := h
      exact ⟨γ, hR, Ext.refl _ _, rfl, .inl ⟨rfl, rfl, hnil0 (hxe ▸ ev_rep hR hG hx)⟩⟩

/-- The row of the one that appends grew. -/
theorem R.grow (hR : R P γ a w s) {w' : World} {g0 : Option Nat} (hgr : w.grownBy w' g0) {g : Nat} (hg : g0 = some g ∨ w.heap.size ≤ g) (hown : ∀ k, g0 = some k → γ.ow k = some .ret) {vs : List Value} (hglt : g < w'.heap.size) (hc : ∀ (j : Nat) (v : Value), vs[j]? = some v → w'.cell? ⟨g, j, none⟩ = some v)
    (hold : ∀ k, g0 = some k → ∀ j v, γ.F k j v → w'.cell? ⟨k, j, none⟩ = some v) :
    ∃ γ', R P γ' a w' s ∧ Ext γ w γ' w' ∧ γ'.ow g = some .ret ∧ (∀ (j : Nat) (v : Value), vs[j]? = some v → γ'.F g j v) ∧ (∀ j v, γ'.F g j v → γ.F g j v ∨ vs[j]? = some v) ∧ ∀ b o v, γ.F b o v → γ'.F b o v := by
  let γ' : Gh := { γ with F := fun b o v => γ.F b o v ∨ (b = g ∧ vs[o]? = some v), ow := fun b => if b = g then some .ret else γ.ow b }
  have hFs : ∀ b o v, γ.F b o v → γ'.F b o v := fun b o v h => .inl h
  have hFn : ∀ b, b ≠ g → ∀ o v, γ'.F b o v → γ.F b o v := fun b hb o v h => h.resolve_right (fun h => hb h.1)
  have hgo : ∀ b, b < w.heap.size → γ.ow b ≠ some .ret → b ≠ g := by
    intro b hb hn e
    subst e
    rcases hg with hg | hg
    · exact hn (hown _ hg)
    · omega
  have hblk : ∀ b, b < w.heap.size → γ.ow b ≠ some .ret → w'.heap[b]? = w.heap[b]? := fun b hb hn => hgr.block b hb (fun e => hn (hown b e.symm))
  have hβ : ∀ b, b ∈ γ.β → b < w.heap.size ∧ γ.ow b ≠ some .ret := fun b hb => ⟨hR.bx.β_lt hb, fun e => (hR.bx.ow b _ e).2 hb⟩
  have hk : ∀ b ℓ, ℓ ≠ .ret → γ.ow b = some ℓ → w'.heap[b]? = w.heap[b]? ∧ (∀ j v, γ'.F b j v → γ.F b j v) ∧ γ'.ow b = some ℓ := by
    intro b ℓ hℓ ho
    have h1 := (hR.bx.ow b ℓ ho).1
    have h2 : γ.ow b ≠ some .ret := by rw [ho]; simpa using hℓ
    have h3 := hgo b h1 h2
    exact ⟨hblk b h1 h2, hFn b h3, by show (if b = g then _ else _) = _; rw [if_neg h3]; exact ho⟩
  have hA : ∀ {ℓ : Loc} {av : AV} {u : Value}, ℓ ≠ .ret → RepA P γ w ℓ av u → RepA P γ' w' ℓ av u := fun hℓ h => h.keep hFs (fun _ _ h => h) (fun b _ hb => hk b _ hℓ hb)
  refine ⟨γ', ⟨⟨hR.bx.len, ?_, hR.bx.nodup, ?_, ?_, fun b e c hs => ?_⟩, hR.sz, fun t ht => hA (by simp) (hR.tm t ht), ?_, hR.dl, ?_⟩, ?_, by simp [γ'], fun j v h => .inr ⟨rfl, h⟩, fun j v h => h.imp id (fun h => h.2), hFs⟩
  · intro i b blk hi hb
    obtain ⟨q1, q2⟩ := hβ blk (List.mem_of_getElem? hb)
    exact (hR.bx.box i b blk hi hb).keep hFs (hblk blk q1 q2) (hFn blk (hgo blk q1 q2)) (fun g' j hg' => hk g' _ (by simp) hg') (fun _ _ h => h)
  · intro b o v h
    rcases h with h | ⟨rfl, h⟩
    · have hc0 := hR.bx.Fw _ _ _ h
      by_cases e : g0 = some b
      · exact hold b e o v h
      · exact (World.cell?_of_block (w := w) (hgr.block b (lt_of_cell hc0) (fun h => e h.symm))).trans hc0
    · exact hc o v h
  · intro b ℓ ho
    simp only [γ'] at ho
    split at ho
    · rename_i e
      subst e
      refine ⟨hglt, fun hm => ?_⟩
      obtain ⟨q1, q2⟩ := hβ b hm
      exact hgo b q1 q2 rfl
    · obtain ⟨q1, q2⟩ := hR.bx.ow b ℓ ho
      exact ⟨Nat.lt_of_lt_of_le q1 hgr.size, q2⟩
  · obtain ⟨p1, cur, p2, p3⟩ := hR.bx.sh b e c hs
    obtain ⟨q1, q2⟩ := hβ b p1
    exact ⟨p1, cur, (hblk b q1 q2).trans p2, p3⟩
  · intro d ℓ hd
    have := hR.lz d ℓ hd
    cases ℓ with
    | tmp t => exact this
    | cell i off =>
      obtain ⟨b, hb, hcc⟩ := this
      obtain ⟨q1, q2⟩ := hβ b (List.mem_of_getElem? hb)
      exact ⟨b, hb, (World.cell?_of_block (w := w) (hblk b q1 q2)).trans hcc⟩
    | ret => trivial
  · intro i d c hd hc'
    exact hR.df i d c hd hc'
  · refine ⟨hgr.os, hgr.tape, hgr.output, hgr.size, hFs, ⟨[], by simp [γ'], by simp⟩, fun b hb => hblk b hb.1 (by rw [hb.2.2]; simp), fun b o v hb h => hFn b (hgo b hb.1 (by rw [hb.2.2]; simp)) o v h, fun b hb => ?_, fun _ _ h => h⟩
    show (if b = g then _ else _) = _
    rw [if_neg (hgo b hb.1 (by rw [hb.2.2]; simp))]
    exact hb.2.2

theorem run_append_none (t ty e : TypeId) (i : TypeInfo) (ht : P.underlying t = some (.slice e)) (hi : P.info? e = some i) (base : Option Addr) (n cap : Nat) (hn : n ≤ cap) (p : Option Addr) (c : Nat) :
    (Builtin.append_ #[t, t] ty #[.slice base n cap, .slice p 0 c]).run P w = .ok (.slice base n cap) w := by
  cases p <;> cases base <;> simp [Builtin.append_, run_underlying ht, sizeOf, typeInfo, hi, Builtin.lenOf, Builtin.firstCells, loadCells, loadCellsFrom, storeCells, hn]

/-- An append onto an empty slice that has no room is one onto the nil slice. -/
theorem run_append_nil_any (w : World) (t ty e : TypeId) (i : TypeInfo) (z : Value) (ht : P.underlying t = some (.slice e)) (hi : P.info? e = some i) (hz : i.zero = some z) (q : Option Addr)
    (a : Addr) (n c : Nat) (news : List Value) (hl : news.length = n * i.size) (hnews : ∀ j v, news[j]? = some v → w.cell? (a.add j) = some v)
    (h0 : 0 < n) (h63 : (n : Int) ≤ 9223372036854775807) (h48 : n * i.bytes ≤ 281474976710656) :
    (Builtin.append_ #[t, t] ty #[.slice q 0 0, .slice (some a) n c]).run P w = (Builtin.append_ #[t, t] ty #[.slice none 0 0, .slice (some a) n c]).run P w := by
  cases q with
  | none => rfl
  | some b =>
    rw [run_append_nil (P := P) w t ty e i z ht hi hz a n c news hl hnews h0 h63 h48]
    have h := run_append_grow (P := P) w t ty e i z ht hi hz b 0 0 [] (by simp) (by simp) a n c news hl hnews (by omega) (by simpa using h63) (by rw [Nat.zero_add, nextslicecap_zero h0]; exact h48)
    rw [h]
    simp

theorem op_app0 (hR : R P γ a w s) (hG : GlobOK E γ) {t e : TypeId} {k b : Nat} {x y : Operand} {x' y' : Opd} (ho : o.op = .call { callee := .builtin .append, args := #[x, y], argTypes := #[t, t] }) (ht : P.underlying t = some (.slice e)) (hs : sizeB P e = some (k, b)) (hz : zeroOK P e = true)
    (hx : opd x = some x') (hy : opd y = some y') (h : doApp E s e k b (srcOf x) x' y' = some (av, s1)) : Done P γ a w o av s1 := by
  unfold doApp at h
  split at h <;> try (simp at h; done)
  rename_i new hnew
  split at h <;> try (simp at h; done)
  rename_i ys e' s' hbase
  split at h <;> try (simp at h; done)
  rename_i hcond
  obtain ⟨hby, h63, hee, hk0, huni⟩ := hcond
  have hyr := (ev_rep hR hG hy).elems hnew
  obtain ⟨γ1, r1, r2, r3, r4⟩ := appBase_ok hR hG hx hbase
  rw [← r3] at hyr
  simp only [sizeB, Option.map_eq_some_iff, Prod.mk.injEq] at hs
  obtain ⟨ie, hie, hsz, hbb⟩ := hs
  unfold zeroOK at hz
  rw [hie] at hz
  simp only at hz
  split at hz <;> try (simp at hz; done)
  rename_i zv hzv
  have hzs : zv.cells.size = k := by rw [← hsz]; simpa using hz
  have hke : P.cellsOf e = k := by simp [Program.cellsOf, hie, hsz]
  have hexec : ∀ {r : Value} {w' : World}, (Builtin.append_ #[t, t] o.type #[a.eval x, a.eval y]).run P w = .ok r w' → (execOp a.eval o).run P w = .ok (.value r) w' := by
    intro r w' hr
    unfold execOp
    simp only [ho, resolve, invoke, builtin, Sem.run_bind, Sem.run_pure, Result.andThen_ok, List.map_toArray, List.map_cons, List.map_nil, hr]
  rcases hyr.sl_inv with ⟨hnil, p, c, hu⟩ | ⟨bl, off, c, k', vs, hu, hk', hne, hcap, hlk, hF, hone, hr⟩
  · subst hnil
    rcases r4 with ⟨rfl, rfl, hxv⟩ | ⟨e1, rfl, r4⟩
    · simp only [Option.some.injEq, Prod.mk.injEq] at h
      obtain ⟨rfl, rfl⟩ := h
      obtain ⟨q, hxv⟩ := hxv
      refine ⟨_, w, γ1, .inl (hexec ?_), r2, r1, .sv _ _ _ (.nil0 q)⟩
      rw [hxv, hu]
      exact run_append_none t o.type e ie ht hie q 0 0 (Nat.le_refl _) p c
    · simp only [reduceCtorEq, false_or, Option.some.injEq] at hee
      subst hee
      simp only [Option.some.injEq, Prod.mk.injEq, List.append_nil] at h
      obtain ⟨rfl, rfl⟩ := h
      refine ⟨a.eval x, w, γ1, .inl (hexec ?_), r2, r1, r4⟩
      rw [hu]
      cases r4 with
      | own _ _ _ hO =>
        obtain ⟨us, g, ⟨_, hor⟩, _, _, _, hob, _⟩ := hO
        rcases hor with ⟨hvn, _⟩ | ⟨g', cap, cur, hve, _, _, hnc, _⟩
        · rw [hvn] at hob; simp [Value.ownBlock] at hob
        · rw [hve]; exact run_append_none t o.type e1 ie ht hie _ _ _ hnc p c
  · have hres : av = .own e (ys ++ new) ∧ s1 = s' := by
      cases e' <;> cases new <;> simp_all
    obtain ⟨rfl, rfl⟩ := hres
    have hkk : k' = k := by
      cases new with
      | nil => exact absurd rfl hne
      | cons y0 _ => exact (hlk y0 (by simp)).symm.trans (uni_spec huni y0 (by simp))
    subst hkk
    let news : List Value := (List.range (new.length * k')).map vs
    have hnl : news.length = new.length * k' := by simp [news]
    have hng : ∀ (j : Nat) (u : Value), news[j]? = some u → j < new.length * k' ∧ vs j = u := by
      intro j u hj
      have hjl : j < new.length * k' := by rw [← hnl]; exact (List.getElem?_eq_some_iff.1 hj).1
      simp only [news, List.getElem?_map, List.getElem?_range hjl, Option.map_some, Option.some.injEq] at hj
      exact ⟨hjl, hj⟩
    have hfll := flat_length hlk
    have h1 : ∀ u ∈ news, u.oneCell' = true := by
      intro u hu'
      obtain ⟨j, hj⟩ := List.getElem?_of_mem hu'
      obtain ⟨hjl, rfl⟩ := hng j u hj
      have hfx : (flat new)[j]? = some ((flat new)[j]'(by omega)) := by simp [hfll, hjl]
      exact (hr j _ hfx).oneCell (hone j _ hfx)
    have hnews : ∀ j u, news[j]? = some u → w.cell? ((⟨bl, off, none⟩ : Addr).add j) = some u := by
      intro j u hj
      obtain ⟨hjl, rfl⟩ := hng j u hj
      rw [add_none]
      exact r1.bx.Fw _ _ _ (hF j hjl)
    have hbaseO : ∃ v0 us, (Builtin.append_ #[t, t] o.type #[a.eval x, .slice (some ⟨bl, off, none⟩) new.length c]).run P w = (Builtin.append_ #[t, t] o.type #[v0, .slice (some ⟨bl, off, none⟩) new.length c]).run P w ∧ w.ownsRow 0 e k' v0 ys.length us ∧ (∀ x ∈ ys, x.cells.length = k') ∧ (∀ (j : Nat) (x : SV), (flat ys)[j]? = some x → x.one = true ∧ ∃ v, us[j]? = some v ∧ RepS γ1.F x v) ∧
        (∀ g, v0.ownBlock = some g → γ1.ow g = some .ret ∧ (∀ (j : Nat) (v : Value), us[j]? = some v → γ1.F g j v) ∧ ∀ j v, γ1.F g j v → j < us.length) := by
      rcases r4 with ⟨_, rfl, hxv⟩ | ⟨e1, rfl, r4⟩
      · obtain ⟨q, hxv⟩ := hxv
        rw [hxv]
        have hnn : 0 < new.length := by
          cases new with
          | nil => exact absurd rfl hne
          | cons => simp
        refine ⟨.slice none 0 0, [], ?_, World.ownsRow_nil w 0 e k', by simp, by simp [flat], by simp [Value.ownBlock]⟩
        exact run_append_nil_any w t o.type e ie zv ht hie hzv q ⟨bl, off, none⟩ new.length c news (by rw [hnl, hsz]) hnews hnn (by simp only [List.length_nil, Nat.zero_add] at h63 hby; omega) (by rw [hbb]; simp only [List.length_nil, Nat.zero_add] at hby; omega)
      · simp only [reduceCtorEq, false_or, Option.some.injEq] at hee
        subst hee
        cases r4 with
        | own _ _ _ hO =>
          obtain ⟨us, g, q1, q2, q3, q4, q5, q6, q7, q8⟩ := hO
          rw [hke] at q1 q3
          refine ⟨a.eval x, us, rfl, q1, q3, q4, fun g' hg' => ?_⟩
          rw [q5] at hg'
          obtain rfl := Option.some.inj hg'
          exact ⟨q6, q7, q8⟩
    obtain ⟨v0, us, heq0, hO, hyl, hyr', hown⟩ := hbaseO
    obtain ⟨v', w', hrun, hO', hgr, hnil', hat⟩ := run_append_own_at (P := P) w 0 t o.type e ie zv k' b ht hie hzv hsz hbb hzs hk' v0 ys.length us hO ⟨bl, off, none⟩ new.length c news hnl hnews h1 (by simp only [maxLen]; omega) hby (Nat.zero_le _)
    have hv'n : v' ≠ .slice none 0 0 := fun e => by
      have := (hnil'.1 e).2
      exact hne (List.eq_nil_of_length_eq_zero this)
    obtain ⟨g, hg⟩ : ∃ g, v'.ownBlock = some g := by
      rcases hO'.2 with ⟨hv, _⟩ | ⟨g, _, _, hv, _⟩
      · exact absurd hv hv'n
      · exact ⟨g, by rw [hv]; rfl⟩
    have hgl := (hO'.lt g hg).2
    have hcells : ∀ (j : Nat) (v : Value), (us ++ news)[j]? = some v → w'.cell? ⟨g, j, none⟩ = some v := fun j v hv => by
      have := hO'.cells hg j v hv
      rw [add_none, Nat.zero_add] at this
      exact this
    have husF : ∀ g', v0.ownBlock = some g' → ∀ j v, γ1.F g' j v → us[j]? = some v := by
      intro g' hg' j v hv
      obtain ⟨_, p2, p3⟩ := hown g' hg'
      have hl := p3 j v hv
      have h4 := r1.bx.Fw _ _ _ (p2 j us[j] (by simp [hl]))
      have h5 := r1.bx.Fw _ _ _ hv
      rw [h4] at h5
      rw [← Option.some.inj h5]
      simp [hl]
    have hold : ∀ g', v0.ownBlock = some g' → ∀ j v, γ1.F g' j v → w'.cell? ⟨g', j, none⟩ = some v := by
      intro g' hg' j v hv
      by_cases eg : g' = g
      · subst eg
        have := husF g' hg' j v hv
        exact hcells j v (by rw [List.getElem?_append_left (List.getElem?_eq_some_iff.1 this).1]; exact this)
      · -- the row was left behind: its old block is as it was, or was written at its end
        rcases hO.2 with ⟨hvn, _⟩ | ⟨g2, cap2, cur2, hve, _, hh2, hnc2, hcm2, hcs2, htk2⟩
        · rw [hvn] at hg'; simp [Value.ownBlock] at hg'
        · have hg2 : g2 = g' := by rw [hve] at hg'; simpa [Value.ownBlock] using hg'
          subst hg2
          by_cases hroom : ys.length + new.length ≤ cap2
          · have hr2 := run_append_room (P := P) w t o.type e ie ht hie g2 ys.length cap2 cur2 hh2 ⟨bl, off, none⟩ new.length c news (by rw [hnl, hsz]) hnews h1 hroom (by rw [hnl, hcs2, hsz, ← Nat.add_mul]; exact Nat.mul_le_mul_right _ hroom)
            rw [← hve, hrun] at hr2
            simp only [Result.ok.injEq] at hr2
            rw [hr2.1] at hg
            simp only [Value.ownBlock, Option.some.injEq] at hg
            exact absurd hg eg
          · have hr2 := run_append_grow (P := P) w t o.type e ie zv ht hie hzv ⟨g2, 0, none⟩ ys.length cap2 us (by rw [hsz]; exact hO.1) (hO.cells (g := g2) (by rw [hve]; rfl)) ⟨bl, off, none⟩ new.length c news (by rw [hnl, hsz]) hnews (by omega) (by omega) (by rw [hbb]; exact growslice_fits (by omega) hby)
            rw [← hve, hrun] at hr2
            simp only [Result.ok.injEq] at hr2
            rw [hr2.2]
            have hc0 := r1.bx.Fw _ _ _ hv
            have hb2 : ∀ (oo : Obj), (w.drew.alloc oo).heap[g2]? = w.heap[g2]? := fun oo => heap_alloc_old w.drew oo g2 (lt_of_cell hc0)
            exact (World.cell?_of_block (w := w) (hb2 _)).trans hc0
    obtain ⟨γ2, s1', s2', s3', s4', s5', s6'⟩ := R.grow (P := P) r1 (w' := w') (g0 := v0.ownBlock) hgr (g := g) (by
      rcases hat with h6 | h6
      · left; rw [← h6, hg]
      · right; rw [hg] at h6; rw [Option.some.inj h6]; exact Nat.le_refl _) (fun k hk => (hown k hk).1) (vs := us ++ news) hgl hcells hold
    refine ⟨v', w', γ2, .inl (hexec (by rw [hu, heq0]; exact hrun)), r2.trans s2', s1', .own _ _ _ _ ⟨us ++ news, g, ?_, by rw [hke]; exact hk0, ?_, ?_, hg, s3', s4', fun j v hv => ?_⟩⟩
    · rw [hke, List.length_append]; exact hO'
    · rw [hke]
      intro z hz
      rcases List.mem_append.1 hz with hz | hz
      · exact hyl z hz
      · exact hlk z hz
    · intro j z hz
      rw [flat_append] at hz
      have hfy : (flat ys).length = us.length := by rw [flat_length hyl, hO.1]
      by_cases hj : j < (flat ys).length
      · rw [List.getElem?_append_left hj] at hz
        obtain ⟨p1, v, p2, p3⟩ := hyr' j z hz
        exact ⟨p1, v, by rw [List.getElem?_append_left (by rw [← hfy]; exact hj)]; exact p2, p3.mono s6'⟩
      · rw [List.getElem?_append_right (by omega)] at hz
        have hjl := (List.getElem?_eq_some_iff.1 hz).1
        refine ⟨hone _ z hz, vs (j - (flat ys).length), ?_, (hr _ z hz).mono s6'⟩
        rw [List.getElem?_append_right (by omega), ← hfy]
        simp only [news, List.getElem?_map]
        rw [List.getElem?_range (by omega)]
        rfl
    · rcases s5' j v hv with h7 | h7
      · rcases hat with h6 | h6
        · have := husF g (by rw [← h6, hg]) j v h7
          have := (List.getElem?_eq_some_iff.1 this).1
          rw [List.length_append]; omega
        · rw [hg] at h6
          have := lt_of_cell (r1.bx.Fw _ _ _ h7)
          have := Option.some.inj h6
          omega
      · exact (List.getElem?_eq_some_iff.1 h7).1

/-! ### Appends onto what may be written -/

theorem plain_rep {i j : Nat} {c : Cell} {u : Value} (h : RepC P γ w i j c u) : c.plain.one = true ∧ RepS γ.F c.plain u := by
  cases c with
  | sv v => exact ⟨SV.can0_one h.1, h.2.can0⟩
  | own e xs => exact ⟨rfl, RepO.rep h⟩
  | lnk k o =>
    obtain ⟨b, _, e⟩ := h
    refine ⟨rfl, ?_⟩
    show RepS γ.F (.ref []) u
    rw [e]
    exact .ref [] b o (fun _ => undef) (by simp) (by simp) (by simp)
  | lrw k n e =>
    obtain ⟨b, c, _, _, e⟩ := h
    refine ⟨rfl, ?_⟩
    show RepS γ.F .unk u
    rw [e]
    exact .unk _ rfl rfl

theorem fresh_drew (hb : BoxesOK P γ w s.bx) (o : Obj) : Fresh γ w γ (w.drew.alloc o) where
  os := rfl
  tape := rfl
  output := rfl
  size := by simp
  blk := fun b hb => heap_alloc_old w.drew o b hb
  F := fun _ _ _ h => h
  Fold := fun _ _ _ _ h => h
  Fw := fun b o' v h => (World.cell?_of_block (w := w) (a := ⟨b, o', none⟩) (heap_alloc_old w.drew o b (lt_of_cell (hb.Fw _ _ _ h)))).trans (hb.Fw _ _ _ h)
  β := rfl
  sh := rfl
  ow := fun _ _ => rfl
  new := fun b ℓ hl ho => by have := (hb.ow b ℓ ho).1; omega

/-- A box that is looked at no more. -/
theorem R.dead (hR : R P γ a w s) {i : Nat} {b : Box} (hi : s.bx[i]? = some b) : R P γ a w { s with bx := s.bx.set i (.frz []), lz := none } := by
  have hilt : i < s.bx.length := (List.getElem?_eq_some_iff.1 hi).1
  refine ⟨⟨by simp [hR.bx.len], ?_, nodup_set hR.bx.nodup hi (fun _ => rfl), hR.bx.Fw, hR.bx.ow, hR.bx.sh⟩, hR.sz, hR.tm, by simp, hR.dl, hR.df⟩
  intro i' b' blk' hi' hk'
  rw [List.getElem?_set] at hi'
  split at hi'
  · rename_i e
    subst e
    simp only [hilt, if_true, Option.some.injEq] at hi'
    subst hi'
    exact dead_rep (hR.bx.box i b blk' hi hk').blk
  · exact hR.bx.box i' b' blk' hi' hk'

/-- A block all of whose boxes are dead may change. -/
theorem R.setDead (hR : R P γ a w s) (hlz : s.lz = none) {blk : Nat} (hβ : blk ∈ γ.β) (hd : ∀ j : Nat, γ.β[j]? = some blk → s.bx[j]? = some (.frz [])) (hnF : ∀ o v, ¬ γ.F blk o v)
    {cur cur' : Array Value} {t : TypeId} {m : Nat × Nat} (hh : w.heap[blk]? = some (.cells cur t m)) (hsz : cur'.size = cur.size) :
    R P γ a (w.setRow blk cur') s ∧ Ext γ w γ (w.setRow blk cur') := by
  have hog : ∀ g ℓ, γ.ow g = some ℓ → g ≠ blk := fun g ℓ h e => (hR.bx.ow g ℓ h).2 (e ▸ hβ)
  have hk1 : ∀ g ℓ, γ.ow g = some ℓ → (w.setRow blk cur').heap[g]? = w.heap[g]? ∧ (∀ j v, γ.F g j v → γ.F g j v) ∧ γ.ow g = some ℓ := fun g ℓ h => ⟨setRow_other w blk g cur' (hog g ℓ h), fun _ _ h => h, h⟩
  refine ⟨⟨⟨hR.bx.len, ?_, hR.bx.nodup, ?_, fun b ℓ hb => ?_, fun b e c hsh => ?_⟩, hR.sz, fun t' ht => (hR.tm t' ht).keep (fun _ _ _ h => h) (fun _ _ h => h) (fun g _ hg => hk1 g _ hg), by simp [hlz], hR.dl, hR.df⟩, ?_⟩
  · intro i b blk' hi hk
    by_cases e : blk' = blk
    · subst e
      have := hd i hk
      rw [hi] at this
      obtain rfl := Option.some.inj this
      exact dead_rep (by simpa using heap_lt hh)
    · exact (hR.bx.box i b blk' hi hk).keep (fun _ _ _ h => h) (setRow_other w blk blk' cur' e) (fun _ _ h => h) (fun g j hg => hk1 g _ hg) (fun _ _ h => h)
  · intro b' o' v hF
    rw [cell_setRow_other w blk cur' _ (fun e : b' = blk => hnF o' v (e ▸ hF))]
    exact hR.bx.Fw _ _ _ hF
  · obtain ⟨k1, k2⟩ := hR.bx.ow b ℓ hb
    exact ⟨by simpa using k1, k2⟩
  · obtain ⟨q1, c0, q2, q3, q4⟩ := hR.bx.sh b e c hsh
    refine ⟨q1, ?_⟩
    by_cases eb : b = blk
    · subst eb
      rw [hh] at q2
      simp only [Option.some.injEq, Obj.cells.injEq] at q2
      obtain ⟨rfl, rfl, rfl⟩ := q2
      exact ⟨cur', setRow_heap w b _ cur' _ _ hh, by rw [hsz]; exact q3, q4⟩
    · exact ⟨c0, (setRow_other w blk b cur' eb).trans q2, q3, q4⟩
  · exact ⟨rfl, rfl, rfl, by simp, fun _ _ _ h => h, ⟨[], by simp, by simp⟩, fun b hb => setRow_other w blk b cur' (fun e => hb.2.1 (e ▸ hβ)), fun _ _ _ _ h => h, fun b hb => hb.2.2, fun _ _ h => h⟩

/-- A block's shape is told. -/
theorem R.setSh (hR : R P γ a w s) {blk e c : Nat} {cur : Array Value} (hb : blk ∈ γ.β) (h0 : γ.sh blk = none) (hh : w.heap[blk]? = some (.cells cur e (0, 0))) (hsz : cur.size = c * P.cellsOf e) (hm : c ≤ maxLen) :
    R P { γ with sh := fun b => if b = blk then some (e, c) else γ.sh b } a w s ∧ ∀ b x, γ.sh b = some x → (if b = blk then some (e, c) else γ.sh b) = some x := by
  have hs : ∀ b x, γ.sh b = some x → (if b = blk then some (e, c) else γ.sh b) = some x := by
    intro b x h
    rw [if_neg (fun e => by subst e; rw [h0] at h; simp at h)]
    exact h
  refine ⟨⟨⟨hR.bx.len, fun i b blk' hi hk => (hR.bx.box i b blk' hi hk).keep (fun _ _ _ h => h) rfl (fun _ _ h => h) (fun g j hg => ⟨rfl, fun _ _ h => h, hg⟩) (fun _ _ h => h), hR.bx.nodup, hR.bx.Fw, hR.bx.ow, fun b e' c' h => ?_⟩, hR.sz, fun t ht => (hR.tm t ht).keep (fun _ _ _ h => h) (fun _ _ h => h) (fun g _ hg => ⟨rfl, fun _ _ h => h, hg⟩) hs, fun d ℓ h => ?_, hR.dl, hR.df⟩, hs⟩
  · simp only at h
    split at h
    · rename_i e1
      subst e1
      simp only [Option.some.injEq, Prod.mk.injEq] at h
      obtain ⟨rfl, rfl⟩ := h
      exact ⟨hb, cur, hh, hsz, hm⟩
    · exact hR.bx.sh b e' c' h
  · have := hR.lz d ℓ h
    cases ℓ <;> exact this

/-- A new row that may grow. -/
theorem R.addRow (hR : R P γ a w s) {blk e c : Nat} {cur : Array Value} (hh : w.heap[blk]? = some (.cells cur e (0, 0))) (hn : ∀ j : Nat, γ.β[j]? = some blk → s.bx[j]? = some (.frz [])) (ho : γ.ow blk = none) (hF : ∀ o v, ¬ γ.F blk o v)
    (h0 : γ.sh blk = none ∨ γ.sh blk = some (e, c)) (hsz : cur.size = c * P.cellsOf e) (hm : c ≤ maxLen) (cs : List SV) (hl : cs.length ≤ cur.size) (hr : ∀ (j : Nat) (x : SV), cs[j]? = some x → x.one = true ∧ RepS γ.F x (cur.getD j undef)) (w0 : World) (hw0 : w0.heap.size ≤ blk ∨ blk ∈ γ.β) (he : Ext γ w0 γ w) :
    ∃ γ', R P γ' a w { s with bx := s.bx ++ [.live (cs.map .sv)] } ∧ Ext γ w0 γ' w ∧ γ'.β[s.bx.length]? = some blk ∧ γ'.sh blk = some (e, c) := by
  have h1 := hR.addBox hh hn ho hF cs hl (free00 _) hr
  have hβ : (γ.β ++ [blk])[s.bx.length]? = some blk := by
    rw [List.getElem?_append_right (by rw [hR.bx.len]; omega), hR.bx.len]; simp
  rcases h0 with h0 | h0
  · obtain ⟨h2, h3⟩ := h1.setSh (blk := blk) (e := e) (c := c) (cur := cur) (by simp) h0 hh hsz hm
    refine ⟨_, h2, ⟨he.os, he.tape, he.output, he.size, he.F, ⟨[blk], rfl, by simpa using hw0⟩, he.blk, he.Fnew, he.own, h3⟩, hβ, by simp⟩
  · exact ⟨_, h1, ⟨he.os, he.tape, he.output, he.size, he.F, ⟨[blk], rfl, by simpa using hw0⟩, he.blk, he.Fnew, he.own, fun _ _ h => h⟩, hβ, h0⟩

theorem op_appM (hR : R P γ a w s) (hG : GlobOK E γ) {t e : TypeId} {k b : Nat} {x y : Operand} {x' y' : Opd} (ho : o.op = .call { callee := .builtin .append, args := #[x, y], argTypes := #[t, t] }) (ht : P.underlying t = some (.slice e)) (hs : sizeB P e = some (k, b)) (hz : zeroOK P e = true)
    (hx : opd x = some x') (hy : opd y = some y') (h : doAppM E s e k b x' y' = some (av, s1)) : Done P γ a w o av s1 := by
  unfold doAppM at h
  split at h <;> try (simp at h; done)
  rename_i new hnew
  split at h <;> try (simp at h; done)
  rename_i hcond
  obtain ⟨hn0, hk0, huni⟩ := hcond
  have hyr := (ev_rep hR hG hy).elems hnew
  have hxr := ev_rep hR hG hx
  simp only [sizeB, Option.map_eq_some_iff, Prod.mk.injEq] at hs
  obtain ⟨ie, hie, hsz, hbb⟩ := hs
  unfold zeroOK at hz
  rw [hie] at hz
  simp only at hz
  split at hz <;> try (simp at hz; done)
  rename_i zv hzv
  have hzs : zv.cells.size = k := by rw [← hsz]; simpa using hz
  have hke : P.cellsOf e = k := by simp [Program.cellsOf, hie, hsz]
  have hexec : ∀ {r : Value} {w' : World}, (Builtin.append_ #[t, t] o.type #[a.eval x, a.eval y]).run P w = .ok r w' → (execOp a.eval o).run P w = .ok (.value r) w' := by
    intro r w' hr
    unfold execOp
    simp only [ho, resolve, invoke, builtin, Sem.run_bind, Sem.run_pure, Result.andThen_ok, List.map_toArray, List.map_cons, List.map_nil, hr]
  rcases hyr.sl_inv with ⟨hnil, _⟩ | ⟨bl, off, c, k', vs, hu, hk', hne, hcap, hlk, hF, hone, hr⟩
  · subst hnil; simp at hn0
  have hkk : k' = k := by
    cases new with
    | nil => exact absurd rfl hne
    | cons y0 _ => exact (hlk y0 (by simp)).symm.trans (uni_spec huni y0 (by simp))
  subst hkk
  have hfe : new.flatMap SV.cells = flat new := rfl
  rw [hfe] at h
  let news : List Value := (List.range (new.length * k')).map vs
  have hnl : news.length = new.length * k' := by simp [news]
  have hng : ∀ (j : Nat) (u : Value), news[j]? = some u → j < new.length * k' ∧ vs j = u := by
    intro j u hj
    have hjl : j < new.length * k' := by rw [← hnl]; exact (List.getElem?_eq_some_iff.1 hj).1
    simp only [news, List.getElem?_map, List.getElem?_range hjl, Option.map_some, Option.some.injEq] at hj
    exact ⟨hjl, hj⟩
  have hgn : ∀ j, j < new.length * k' → news.getD j undef = vs j := by
    intro j hj
    simp only [List.getD_eq_getElem?_getD, news, List.getElem?_map, List.getElem?_range hj, Option.map_some, Option.getD_some]
  have hfll := flat_length hlk
  have h1 : ∀ u ∈ news, u.oneCell' = true := by
    intro u hu'
    obtain ⟨j, hj⟩ := List.getElem?_of_mem hu'
    obtain ⟨hjl, rfl⟩ := hng j u hj
    have hfx : (flat new)[j]? = some ((flat new)[j]'(by omega)) := by simp [hfll, hjl]
    exact (hr j _ hfx).oneCell (hone j _ hfx)
  have hnews : ∀ j u, news[j]? = some u → w.cell? ((⟨bl, off, none⟩ : Addr).add j) = some u := by
    intro j u hj
    obtain ⟨hjl, rfl⟩ := hng j u hj
    rw [add_none]
    exact hR.bx.Fw _ _ _ (hF j hjl)
  have hnF : ∀ o v, ¬ γ.F w.heap.size o v := fun o v h => by have := lt_of_cell (hR.bx.Fw _ _ _ h); omega
  have hnβ : ∀ j : Nat, γ.β[j]? ≠ some w.heap.size := fun j h => by have := hR.bx.β_lt (List.mem_of_getElem? h); omega
  have hno : γ.ow w.heap.size = none := by
    cases h : γ.ow w.heap.size with
    | none => rfl
    | some ℓ => have := (hR.bx.ow _ _ h).1; omega
  have hns : γ.sh w.heap.size = none := by
    cases h : γ.sh w.heap.size with
    | none => rfl
    | some x =>
      obtain ⟨q1, _⟩ := hR.bx.sh _ x.1 x.2 h
      have := hR.bx.β_lt q1; omega
  rw [hu] at hexec
  have hnilc : ∀ p, a.eval x = .slice p 0 0 → new.length * b ≤ 140737488355328 ∧ new.length ≤ 140737488355328 → Done P γ a w o (.grw s.bx.length new.length k' e) { s with bx := s.bx ++ [.live ((flat new).map .sv)], lz := none } := by
    intro p hp hb2
    have hb3 : new.length * ie.bytes ≤ 281474976710656 := by rw [hbb]; omega
    have hrun := run_append_nil (P := P) w t o.type e ie zv ht hie hzv ⟨bl, off, none⟩ new.length c news (by rw [hnl, hsz]) hnews hn0 (by omega) hb3
    have hrun0 := run_append_nil_any (P := P) w t o.type e ie zv ht hie hzv p ⟨bl, off, none⟩ new.length c news (by rw [hnl, hsz]) hnews hn0 (by omega) hb3
    rw [hp, hrun0, hrun] at hexec
    have hge := grownCap_ge w new.length 0 e
    have hcm : grownCap w new.length 0 e ≤ maxLen := grownCap_le_maxLen w new.length 0 e (by simp only [maxLen]; omega)
    generalize hcap2 : grownCap w new.length 0 e = cap at *
    have hfr := fresh_drew (P := P) hR.bx (.cells (news.toArray ++ Builtin.zeroCells zv.cells (cap - new.length)) e)
    have hsize : (news.toArray ++ Builtin.zeroCells zv.cells (cap - new.length)).size = cap * P.cellsOf e := by
      simp only [Array.size_append, List.size_toArray, size_zeroCells, hzs, hnl, hke, ← Nat.add_mul]
      congr 1; omega
    obtain ⟨γ', g1, g2, g3, g4⟩ := (hfr.R hR).noLz.addRow (blk := w.heap.size) (e := e) (c := cap) (cur := news.toArray ++ Builtin.zeroCells zv.cells (cap - new.length)) (heap_alloc_new w.drew _) (fun j hj => absurd hj (hnβ j)) hno hnF (.inl hns) hsize hcm (flat new)
      (by rw [hsize, hfll, hke]; exact Nat.mul_le_mul_right _ hge) (fun j z hz => by
        have hjl : j < new.length * k' := by rw [← hfll]; exact (List.getElem?_eq_some_iff.1 hz).1
        refine ⟨hone j z hz, ?_⟩
        have : (news.toArray ++ Builtin.zeroCells zv.cells (cap - new.length)).getD j undef = vs j := by
          rw [← hgn j hjl]
          simp only [Array.getD_eq_getD_getElem?, List.getD_eq_getElem?_getD]
          rw [Array.getElem?_append_left (by simpa [hnl] using hjl)]
          simp
        rw [this]
        exact hr j z hz) w (.inl (Nat.le_refl _)) hfr.ext
    exact ⟨_, _, γ', .inl (hexec rfl), g2, g1, .grw _ _ _ _ _ _ _ g3 g4 hge hke hk0⟩
  split at h <;> try (simp at h; done)
  · rename_i hxe
    split at h <;> simp only [Option.some.injEq, Prod.mk.injEq, reduceCtorEq] at h
    rename_i hb2
    obtain ⟨rfl, rfl⟩ := h
    rw [hxe] at hxr
    obtain ⟨p, hp⟩ : ∃ p, a.eval x = .slice p 0 0 := by
      have h3 := hxr.sv_inv
      generalize a.eval x = X at h3
      cases h3; exact ⟨_, rfl⟩
    exact hnilc p hp hb2
  · rename_i hxe
    split at h <;> simp only [Option.some.injEq, Prod.mk.injEq, reduceCtorEq] at h
    rename_i hb2
    obtain ⟨rfl, rfl⟩ := h
    rw [hxe] at hxr
    obtain ⟨p, hp⟩ : ∃ p, a.eval x = .slice p 0 0 := by
      have h3 := hxr.sv_inv
      generalize a.eval x = X at h3
      cases h3; exact ⟨_, rfl⟩
    exact hnilc p hp hb2
  · rename_i i n k2 e2 hxe
    split at h <;> try (simp at h; done)
    rename_i hb2
    obtain ⟨hkx, hex, hby, h63⟩ := hb2
    have hkx' := hkx.symm
    have hex' := hex.symm
    subst hkx'
    subst hex'
    split at h <;> try (simp at h; done)
    rename_i cs hcs
    split at h <;> simp only [Option.some.injEq, Prod.mk.injEq, reduceCtorEq] at h
    rename_i hcl
    obtain ⟨rfl, rfl⟩ := h
    rw [hxe] at hxr
    generalize hX : a.eval x = X at hxr
    cases hxr with
    | grw _ _ _ _ blk cap hblk hsh hncap _ _ =>
    rw [hX] at hexec
    have hblkβ : blk ∈ γ.β := List.mem_of_getElem? hblk
    obtain ⟨_, cur, hh, hcsz, hcm⟩ := hR.bx.sh blk _ cap hsh
    obtain ⟨arr, ty, m, k1, ⟨k2, kf⟩, k3, k4⟩ := hR.bx.box i _ blk hcs hblk
    rw [hh] at k1
    simp only [Option.some.injEq, Obj.cells.injEq] at k1
    obtain ⟨rfl, rfl, rfl⟩ := k1
    rw [hke] at hcsz
    have hd := hR.dead hcs
    have hall : ∀ j : Nat, γ.β[j]? = some blk → (s.bx.set i (.frz []))[j]? = some (.frz []) := by
      intro j hj
      have hjl : j < s.bx.length := by have := (List.getElem?_eq_some_iff.1 hj).1; rw [hR.bx.len] at this; exact this
      rw [List.getElem?_set]
      by_cases e1 : i = j
      · rw [if_pos e1, if_pos (by omega)]
      · rw [if_neg e1]
        have h9 : s.bx[j]? = some s.bx[j] := by simp [hjl]
        rw [h9, other_dead hR.bx.nodup hcs (by simp) hblk h9 hj (fun h => e1 h.symm)]
    have hoB : γ.ow blk = none := by
      cases h : γ.ow blk with
      | none => rfl
      | some ℓ => exact absurd hblkβ (hR.bx.ow _ _ h).2
    have hpl : ∀ (j : Nat) (z : SV), (cs.map Cell.plain)[j]? = some z → z.one = true ∧ RepS γ.F z (cur.getD j undef) := by
      intro j z hz
      rw [List.getElem?_map] at hz
      obtain ⟨c0, hc0, rfl⟩ := Option.map_eq_some_iff.1 hz
      exact plain_rep (k3 j c0 hc0)
    have hlen : (cs.map Cell.plain ++ flat new).length = (n + new.length) * k' := by rw [List.length_append, List.length_map, hcl, hfll, Nat.add_mul]
    have hcell : ∀ (A : Array Value), (∀ j, j < n * k' → A.getD j undef = cur.getD j undef) → (∀ j, j < new.length * k' → A.getD (n * k' + j) undef = vs j) →
        ∀ (j : Nat) (z : SV), (cs.map Cell.plain ++ flat new)[j]? = some z → z.one = true ∧ RepS γ.F z (A.getD j undef) := by
      intro A hA1 hA2 j z hz
      by_cases hj : j < n * k'
      · rw [List.getElem?_append_left (by rw [List.length_map, hcl]; exact hj)] at hz
        rw [hA1 j hj]
        exact hpl j z hz
      · rw [List.getElem?_append_right (by rw [List.length_map, hcl]; omega), List.length_map, hcl] at hz
        have hjl : j - n * k' < new.length * k' := by rw [← hfll]; exact (List.getElem?_eq_some_iff.1 hz).1
        have h9 := hA2 (j - n * k') hjl
        rw [show n * k' + (j - n * k') = j by omega] at h9
        rw [h9]
        exact ⟨hone _ z hz, hr _ z hz⟩
    by_cases hroom : n + new.length ≤ cap
    · have hfit : n * ie.size + news.length ≤ cur.size := by rw [hnl, hsz, hcsz, ← Nat.add_mul]; exact Nat.mul_le_mul_right _ hroom
      have hrun := run_append_room (P := P) w t o.type e ie ht hie blk n cap cur hh ⟨bl, off, none⟩ new.length c news (by rw [hnl, hsz]) hnews h1 hroom hfit
      rw [hsz] at hrun hfit
      rw [hrun] at hexec
      have hsize : (cur.toList.take (n * k') ++ news ++ cur.toList.drop (n * k' + news.length)).toArray.size = cur.size := by simp; omega
      obtain ⟨q1, q2⟩ := hd.setDead rfl hblkβ hall k4 hh hsize
      have hget := splice_getD cur.toList news (n * k') (by simpa using hfit)
      obtain ⟨γ', g1, g2, g3, g4⟩ := q1.addRow (blk := blk) (e := e) (c := cap) (setRow_heap w blk cur _ _ _ hh) hall hoB k4 (.inr hsh) (by rw [hsize, hcsz, hke]) hcm (cs.map Cell.plain ++ flat new)
        (by rw [hsize, hcsz, hlen]; exact Nat.mul_le_mul_right _ hroom) (hcell _ (fun j hj => by
          rw [hget j, if_neg (by omega)]
          simp [Array.getD_eq_getD_getElem?, List.getD_eq_getElem?_getD]) (fun j hj => by
          rw [hget (n * k' + j), if_pos (by rw [hnl]; omega), show n * k' + j - n * k' = j by omega]
          exact hgn j hj)) w (.inr hblkβ) q2
      refine ⟨_, _, γ', .inl (hexec rfl), g2, g1, ?_⟩
      have hbl : (s.bx.set i (Box.frz [])).length = s.bx.length := by simp
      simp only [hbl] at g3
      exact .grw _ _ _ _ _ _ _ g3 g4 hroom hke hk0
    · have holds : ∀ j u, (cur.toList.take (n * k'))[j]? = some u → w.cell? ((⟨blk, 0, none⟩ : Addr).add j) = some u := by
        intro j u hj
        rw [add_none, Nat.zero_add, cell_of_row w blk j cur _ _ hh]
        rw [List.getElem?_take] at hj
        split at hj
        · simpa using hj
        · simp at hj
      have hol : (cur.toList.take (n * k')).length = n * k' := by simp; omega
      have hrun := run_append_grow (P := P) w t o.type e ie zv ht hie hzv ⟨blk, 0, none⟩ n cap (cur.toList.take (n * k')) (by rw [hol, hsz]) holds ⟨bl, off, none⟩ new.length c news (by rw [hnl, hsz]) hnews (by omega) (by omega) (growslice_fits (by omega) (by rw [hbb]; exact hby))
      rw [hrun] at hexec
      have hge := grownCap_ge w (n + new.length) cap e
      have hcm2 : grownCap w (n + new.length) cap e ≤ maxLen := grownCap_le_maxLen w (n + new.length) cap e (by simp only [maxLen]; omega)
      generalize grownCap w (n + new.length) cap e = cap2 at *
      have hfr := fresh_drew (P := P) hd.bx (.cells ((cur.toList.take (n * k')).toArray ++ news.toArray ++ Builtin.zeroCells zv.cells (cap2 - (n + new.length))) e)
      have hsize : ((cur.toList.take (n * k')).toArray ++ news.toArray ++ Builtin.zeroCells zv.cells (cap2 - (n + new.length))).size = cap2 * P.cellsOf e := by
        simp only [Array.size_append, List.size_toArray, size_zeroCells, hzs, hnl, hke, hol, ← Nat.add_mul]
        congr 1; omega
      obtain ⟨γ', g1, g2, g3, g4⟩ := (hfr.R hd).addRow (blk := w.heap.size) (e := e) (c := cap2) (cur := (cur.toList.take (n * k')).toArray ++ news.toArray ++ Builtin.zeroCells zv.cells (cap2 - (n + new.length))) (heap_alloc_new w.drew _) (fun j hj => absurd hj (hnβ j)) hno hnF (.inl hns) hsize hcm2 (cs.map Cell.plain ++ flat new)
        (by rw [hsize, hlen, hke]; exact Nat.mul_le_mul_right _ hge) (hcell _ (fun j hj => by
          simp only [Array.getD_eq_getD_getElem?]
          rw [Array.getElem?_append_left (by simp [hnl]; omega), Array.getElem?_append_left (by simp; omega)]
          simp [List.getElem?_take, hj]) (fun j hj => by
          rw [← hgn j hj]
          simp only [Array.getD_eq_getD_getElem?, List.getD_eq_getElem?_getD]
          rw [Array.getElem?_append_left (by simp [hnl]; omega), Array.getElem?_append_right (by simp; omega)]
          simp only [List.size_toArray, hol]
          rw [show n * k' + j - n * k' = j by omega]
          simp)) w (.inl (Nat.le_refl _)) hfr.ext
      refine ⟨_, _, γ', .inl (hexec rfl), g2, g1, ?_⟩
      have hbl : (s.bx.set i (Box.frz [])).length = s.bx.length := by simp
      simp only [hbl] at g3
      exact .grw _ _ _ _ _ _ _ g3 g4 hge hke hk0

theorem R.forget (hR : R P γ a w s) (t : Nat) : R P γ a w (s.forget t) := by
  refine ⟨hR.bx, hR.sz.trans (by simp [St.forget]), fun t' ht => ?_, hR.lz, hR.dl, hR.df⟩
  have ht' : t' < s.tm.length := by simpa [St.forget] using ht
  have := hR.tm t' ht'
  simp only [St.forget, St.rd, List.getD_eq_getElem?_getD, List.getElem?_set] at this ⊢
  by_cases e : t = t'
  · subst e
    rw [if_pos rfl, if_pos ht']
    exact .sv _ _ _ (.undef _)
  · rw [if_neg e]; exact this

/-- What is disowned and then forgotten. -/
theorem forget_disown (s : St) (t : Nat) (h : (s.rd t).isOwn = true) : (s.disown t).forget t = s.forget t := by
  unfold St.disown
  split
  · simp [St.forget]
  · rfl

theorem op_app (hR : R P γ a w s) (hG : GlobOK E γ) {t e : TypeId} {k b : Nat} {x y : Operand} {x' y' : Opd} (ho : o.op = .call { callee := .builtin .append, args := #[x, y], argTypes := #[t, t] }) (ht : P.underlying t = some (.slice e)) (hs : sizeB P e = some (k, b)) (hz : zeroOK P e = true)
    (hx : opd x = some x') (hy : opd y = some y') (h : stepV E cf q o.dst s (.app e k b (srcOf x) x' y') = some (av, s1)) : Done P γ a w o av s1 := by
  simp only [stepV] at h
  split at h
  · unfold doAppQ at h
    split at h <;> try (simp at h; done)
    rename_i t'
    split at h <;> try (simp at h; done)
    rename_i hc
    obtain ⟨hd, hlz, hown⟩ := hc
    split at h <;> simp only [Option.some.injEq, Prod.mk.injEq, reduceCtorEq] at h
    rename_i v s2 happ
    obtain ⟨rfl, rfl⟩ := h
    obtain ⟨v', w', γ', h1, h2, h3, h4⟩ := op_app0 hR hG ho ht hs hz hx hy happ
    refine ⟨v', w', γ', h1, h2, ?_, h4⟩
    have e2 : s2 = s.disown t' := by
      unfold doApp at happ
      split at happ <;> try (simp at happ; done)
      split at happ <;> try (simp at happ; done)
      rename_i ys e' s3 hb
      have hs3 : s3 = s.disown t' := by
        unfold appBase at hb
        rw [hd, hlz] at hb
        simp only at hb
        split at hb <;> simp only [Option.some.injEq, Prod.mk.injEq, reduceCtorEq] at hb
        · exact hb.2.2.symm
        · rename_i hn
          rw [hn] at hown; simp [AV.isOwn] at hown
        · rename_i hn
          rw [hn] at hown; simp [AV.isOwn] at hown
      split at happ <;> try (simp at happ; done)
      split at happ <;> simp only [Option.some.injEq, Prod.mk.injEq] at happ
      · rw [← happ.2]; exact hs3
      · rw [← happ.2]; exact hs3
    rw [← forget_disown s t' hown, ← e2]
    exact h3.forget t'
  · split at h
    · exact op_appM hR hG ho ht hs hz hx hy h
    · exact op_app0 hR hG ho ht hs hz hx hy h

end Go.Ev

set_option linter.unusedSimpArgs false
set_option linter.unusedVariables false
namespace Go.Ev
variable {P : Program} {E : Env} {γ : Gh} {a : Act} {w : World} {s : St} {o : Oper} {cf : CallF} {q : Bool} {s1 : St} {av : AV}

theorem op_rngS (hR : R P γ a w s) (hG : GlobOK E γ) {t : TypeId} {x : Operand} {x' : Opd} (ho : o.op = .range t x) (ht : P.underlying t = some .string) (hx : opd x = some x')
    (h : stepV E cf q o.dst s (.rngS x') = some (av, s1)) : Done P γ a w o av s1 := by
  simp only [stepV] at h
  split at h <;> try (simp at h; done)
  split at h <;> simp only [Option.some.injEq, Prod.mk.injEq, reduceCtorEq] at h
  rename_i l hl
  obtain ⟨rfl, rfl⟩ := h
  have hv := (ev_rep hR hG hx).str hl
  have hrun := run_range_string (P := P) w t ⟨l.toArray⟩ ht
  have hf := fresh_alloc hR.bx (.stringIter ⟨l.toArray⟩ 0)
  have h1 := hf.R hR
  have hnF : ∀ o v, ¬ γ.F w.heap.size o v := fun o v h => by have := lt_of_cell (hR.bx.Fw _ _ _ h); omega
  have hnβ : w.heap.size ∉ γ.β := fun h => by have := hR.bx.β_lt h; omega
  have hno : γ.ow w.heap.size = none := by
    cases h : γ.ow w.heap.size with
    | none => rfl
    | some ℓ => have := (hR.bx.ow _ _ h).1; omega
  refine ⟨_, w.alloc (.stringIter ⟨l.toArray⟩ 0), _, .inl ?_, ?_, h1.addBoxB (bb := .it l 0) (fun j hj => absurd (List.mem_of_getElem? hj) hnβ) hno (heap_alloc_new w _), .ptr _ _ 0 w.heap.size ?_⟩
  · simp only [execOp, ho, hv, Sem.run_bind, hrun, Result.andThen_ok]; rfl
  · have he := hf.ext
    exact ⟨he.os, he.tape, he.output, he.size, he.F, ⟨[w.heap.size], rfl, by simp⟩, he.blk, he.Fnew, he.own, he.sh⟩
  · rw [List.getElem?_append_right (by rw [hR.bx.len]; omega), hR.bx.len]; simp

/-- An iterator goes on. -/
theorem R.setIt (hR : R P γ a w s) {i blk : Nat} {l : List UInt8} {p p' : Nat} (hi : s.bx[i]? = some (.it l p)) (hk : γ.β[i]? = some blk) :
    R P γ a (w.iterAt blk ⟨l.toArray⟩ p') { s with bx := s.bx.set i (.it l p'), lz := none } ∧ Ext γ w γ (w.iterAt blk ⟨l.toArray⟩ p') := by
  have hilt : i < s.bx.length := (List.getElem?_eq_some_iff.1 hi).1
  have hblkβ : blk ∈ γ.β := List.mem_of_getElem? hk
  have hh : w.heap[blk]? = some (.stringIter ⟨l.toArray⟩ p) := hR.bx.box i _ blk hi hk
  have hog : ∀ g ℓ, γ.ow g = some ℓ → g ≠ blk := fun g ℓ h e => (hR.bx.ow g ℓ h).2 (e ▸ hblkβ)
  have hnF : ∀ o v, ¬ γ.F blk o v := fun o v h => by
    have := hR.bx.Fw _ _ _ h
    simp [World.cell?, hh] at this
  have hoth : ∀ g, g ≠ blk → (w.iterAt blk ⟨l.toArray⟩ p').heap[g]? = w.heap[g]? := fun g hg => Lib.iterAt_other w blk g _ _ hg
  have hk1 : ∀ g ℓ, γ.ow g = some ℓ → (w.iterAt blk ⟨l.toArray⟩ p').heap[g]? = w.heap[g]? ∧ (∀ j v, γ.F g j v → γ.F g j v) ∧ γ.ow g = some ℓ := fun g ℓ h => ⟨hoth g (hog g ℓ h), fun _ _ h => h, h⟩
  refine ⟨⟨⟨by simp [hR.bx.len], ?_, nodup_set hR.bx.nodup hi (by simp), ?_, fun b ℓ hb => ?_, fun b e c hsh => ?_⟩, hR.sz, fun t' ht => (hR.tm t' ht).keep (fun _ _ _ h => h) (fun _ _ h => h) (fun g _ hg => hk1 g _ hg), by simp, hR.dl, hR.df⟩, ?_⟩
  · intro i' b' blk' hi' hk'
    rw [List.getElem?_set] at hi'
    split at hi'
    · rename_i e
      subst e
      simp only [hilt, if_true, Option.some.injEq] at hi'
      subst hi'
      have : blk' = blk := by have h := hk'.symm.trans hk; simpa using h
      subst this
      exact Lib.iterAt_heap w blk' _ p p' hh
    · rename_i e
      by_cases hne : blk' = blk
      · subst hne
        have := other_dead hR.bx.nodup hi (by simp) hk hi' hk' (fun h => e h.symm)
        subst this
        exact dead_rep (by rw [Lib.iterAt_size]; exact heap_lt hh)
      · exact (hR.bx.box i' b' blk' hi' hk').keep (fun _ _ _ h => h) (hoth blk' hne) (fun _ _ h => h) (fun g j hg => hk1 g _ hg) (fun _ _ h => h)
  · intro b' o' v hF
    rw [World.cell?_of_block (hoth b' (fun e => hnF o' v (e ▸ hF)))]
    exact hR.bx.Fw _ _ _ hF
  · obtain ⟨k1, k2⟩ := hR.bx.ow b ℓ hb
    exact ⟨by rw [Lib.iterAt_size]; exact k1, k2⟩
  · obtain ⟨q1, cur, q2, q3, q4⟩ := hR.bx.sh b e c hsh
    have hne : b ≠ blk := fun eb => by subst eb; rw [hh] at q2; simp at q2
    exact ⟨q1, cur, (hoth b hne).trans q2, q3, q4⟩
  · exact ⟨rfl, rfl, rfl, by rw [Lib.iterAt_size]; exact Nat.le_refl _, fun _ _ _ h => h, ⟨[], by simp, by simp⟩, fun b hb => hoth b (fun e => hb.2.1 (e ▸ hblkβ)), fun _ _ _ _ h => h, fun b hb => hb.2.2, fun _ _ h => h⟩

theorem op_nextS (hR : R P γ a w s) (hG : GlobOK E γ) {x : Operand} {x' : Opd} (ho : o.op = .next x true) (hx : opd x = some x')
    (h : stepV E cf q o.dst s (.nextS x') = some (av, s1)) : Done P γ a w o av s1 := by
  have hpr := ev_rep hR hG hx
  simp only [stepV] at h
  split at h <;> try (simp at h; done)
  split at h <;> try (simp at h; done)
  rename_i i hpe
  rw [hpe] at hpr
  generalize hpv : a.eval x = pv at hpr
  cases hpr with
  | ptr _ _ blk hblk =>
  split at h <;> try (simp at h; done)
  rename_i l pos hbx
  have hh : w.heap[blk]? = some (.stringIter ⟨l.toArray⟩ pos) := hR.bx.box i _ blk hbx hblk
  have hsz : (⟨l.toArray⟩ : ByteArray).size = l.length := by simp [ByteArray.size]
  split at h
  · rename_i hn
    simp only [Option.some.injEq, Prod.mk.injEq] at h
    obtain ⟨rfl, rfl⟩ := h
    have hge : l.length ≤ pos := List.getElem?_eq_none_iff.1 hn
    have hrun := Lib.run_next_end_at (P := P) w blk ⟨l.toArray⟩ pos o.type hh (by rw [hsz]; omega)
    refine Done.sv hR (v := .tuple #[.bool false]) ?_ (.tup _ _ rfl fun j x hj => ?_)
    · simp only [execOp, ho, hpv, Sem.run_bind, hrun, Result.andThen_ok]; rfl
    · cases j with
      | zero => simp only [List.getElem?_cons_zero, Option.some.injEq] at hj; subst hj; exact .bool _
      | succ j => simp at hj
  · rename_i c hc
    split at h <;> simp only [Option.some.injEq, Prod.mk.injEq, reduceCtorEq] at h
    rename_i hlt
    obtain ⟨rfl, rfl⟩ := h
    have hpl : pos < l.length := (List.getElem?_eq_some_iff.1 hc).1
    have hget : (⟨l.toArray⟩ : ByteArray)[pos]'(by rw [hsz]; exact hpl) = c := by
      have := (List.getElem?_eq_some_iff.1 hc).2
      rw [← this]
      rfl
    have hrun := Lib.run_next_ascii_at (P := P) w blk ⟨l.toArray⟩ pos o.type hh (by rw [hsz]; exact hpl) (by rw [hget]; exact hlt)
    rw [hget] at hrun
    obtain ⟨r1, r2⟩ := hR.setIt (p' := pos + 1) hbx hblk
    refine ⟨.tuple #[.bool true, .int .i64 pos, .int .i32 c.toNat], _, γ, .inl ?_, r2, r1, .sv _ _ _ (.tup _ _ rfl fun j x hj => ?_)⟩
    · simp only [execOp, ho, hpv, Sem.run_bind, hrun, Result.andThen_ok]; rfl
    · match j with
      | 0 => simp only [List.getElem?_cons_zero, Option.some.injEq] at hj; subst hj; exact .bool _
      | 1 => simp only [List.getElem?_cons_succ, List.getElem?_cons_zero, Option.some.injEq] at hj; subst hj; exact .int _ _
      | 2 => simp only [List.getElem?_cons_succ, List.getElem?_cons_zero, Option.some.injEq] at hj; subst hj; exact .int _ _
      | j + 3 => simp at hj

end Go.Ev
