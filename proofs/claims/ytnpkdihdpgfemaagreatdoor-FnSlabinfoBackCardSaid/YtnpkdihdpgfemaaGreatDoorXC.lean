/- Counters of transformations: the program's reading, whole. -/
/- Counters of transformations: what is written is read, and the laws. -/
/- Rows of an argument: what fits. -/
/- What is written is read as its tree: the law. -/
import Derived.Test.YtnpkdihdpgfemaaGreatDoorXA
import Derived.Test.YtnpkdihdpgfemaaGreatDoorCodesB
set_option linter.unusedSimpArgs false
set_option linter.unusedVariables false
namespace Go.Ev
open Go.Proofs

theorem xfNames_nodup : xfNames.Nodup := by decide

theorem map_set_at {α β : Type} [DecidableEq α] {f : α → β} {v : β} {s : α} : ∀ {L : List α} (_ : L.Nodup) {i : Nat} (_ : L[i]? = some s), (L.map f).set i v = L.map (fun x => if s = x then v else f x)
  | [], _, i, hi => by simp at hi
  | a :: L, hnd, i, hi => by
    obtain ⟨h1, h2⟩ := List.nodup_cons.1 hnd
    cases i with
    | zero =>
      simp only [List.getElem?_cons_zero, Option.some.injEq] at hi
      subst hi
      simp only [List.map_cons, List.set_cons_zero, if_true, List.cons.injEq, true_and]
      apply List.map_congr_left
      intro x hx
      rw [if_neg]
      rintro rfl; exact h1 hx
    | succ i =>
      simp only [List.getElem?_cons_succ] at hi
      have hne : s ≠ a := by rintro rfl; exact h1 (List.mem_of_getElem? hi)
      simp only [List.map_cons, List.set_cons_succ, if_neg hne]
      rw [map_set_at h2 hi]

theorem valOf_snoc (done : List RowD) (r : RowD) (n : Nat) (hN : r.N = [n]) (x : List UInt8) : valOf (done ++ [r]) x 0 = if r.name = x then (n : Int) else valOf done x 0 := by
  simp [valOf, List.foldl_append, hN]

theorem vals_snoc (done : List RowD) (r : RowD) (n : Nat) (hN : r.N = [n]) (i : Nat) (hi : xfNames[i]? = some r.name) :
    (xfNames.map fun x => valOf done x 0).set i (n : Int) = xfNames.map fun x => valOf (done ++ [r]) x 0 := by
  rw [map_set_at xfNames_nodup hi]
  exact List.map_congr_left fun x _ => (valOf_snoc done r n hN x).symm

theorem named_cons {s : List UInt8} {rs : List RowD} (h : namedV (lineG [] s) = some rs) : (s = [] ∧ rs = []) ∨ ∃ line rest a b n rs', (∀ c ∈ line, c.toNat ≠ 10) ∧ ((s = line ++ 10 :: rest) ∨ (s = line ∧ rest = [] ∧ line ≠ [])) ∧ fieldsL line = [a, b] ∧ decV b = some n ∧ rs = ⟨a, [n], []⟩ :: rs' ∧ namedV (lineG [] rest) = some rs' := by
  rcases line_cases s with rfl | ⟨line, rest, h1, h2, h3⟩
  · left
    simp only [lineG, if_true, namedV, Option.some.injEq] at h
    exact ⟨rfl, h.symm⟩
  · right
    rw [h2] at h
    simp only [namedV] at h
    rcases hfl : fieldsL line with _ | ⟨a, _ | ⟨b, _ | ⟨d, t⟩⟩⟩ <;> rw [hfl] at h <;> simp only [reduceCtorEq] at h
    cases hd : decV b with
    | none => rw [hd] at h; simp only [reduceCtorEq] at h
    | some n =>
      rw [hd] at h
      cases hn : namedV (lineG [] rest) with
      | none => rw [hn] at h; simp only [reduceCtorEq] at h
      | some rs' =>
        rw [hn] at h
        simp only [Option.some.injEq] at h
        exact ⟨line, rest, a, b, n, rs', h1, h3, hfl, hd, h.symm, hn⟩

theorem decV_dec {b : List UInt8} {n : Nat} (h : decV b = some n) : decS n = b := by
  unfold decV at h
  split at h
  · split at h <;> simp only [Option.some.injEq, reduceCtorEq] at h
    subst h; rename_i hc; exact hc.2
  · simp at h

theorem plain13 {c : UInt8} (h : plainC c = true) : c.toNat < 128 ∧ c.toNat ≠ 13 := by
  unfold plainC at h
  simp only [Bool.and_eq_true, Bool.or_eq_true, decide_eq_true_eq, beq_iff_eq] at h
  omega

theorem named_len : ∀ {l : List (List UInt8)} {rs : List RowD}, namedV l = some rs → rs.length = l.length := fun {l rs} h => (namedV_fit (B := l.foldr (fun s b => max s.length b) 0) h (by
  clear h
  intro s hs
  induction l with
  | nil => cases hs
  | cons a l ih =>
    rcases List.mem_cons.1 hs with rfl | hs
    · simp only [List.foldr_cons]; omega
    · have := ih hs; simp only [List.foldr_cons]; omega)).1

theorem xfRead_spec {s : List UInt8} {rs : List RowD} (h : xfRead s = some rs) : namedV (linesL s) = some rs ∧ (∀ c ∈ s, plainC c = true) ∧ xfFine rs = true := by
  unfold xfRead at h
  split at h
  · rename_i q hq
    split at h <;> simp only [Option.some.injEq, reduceCtorEq] at h
    subst h
    rename_i hc
    rw [Bool.and_eq_true, List.all_eq_true] at hc
    exact ⟨hq, hc.1, hc.2⟩
  · simp at h

def F84 : List SV → Option AV
  | [.str s] => some (.sv (.tup [.str s, .nilI]))
  | _ => none

theorem ev84 (E : Env) (h : E.code 87 = some c84) (s : List UInt8) (n : Nat) : evP E n 87 [.str s] = some (.sv (.tup [.str s, .nilI])) := by
  unfold evP
  simp only [h]
  simp [c84, List.replicate]

def xfVals (rs : List RowD) : List Int := xfNames.map fun x => valOf rs x 0

end Go.Ev

set_option linter.unusedSimpArgs false
set_option linter.unusedVariables false
namespace Go.Ev
open Go.Proofs

def xfBody (r : RowD) : List UInt8 := leftS r.name 24 ++ 9 :: decS (r.N.headD 0)

theorem xfLine_body (r : RowD) : xfLine r = xfBody r ++ [10] := by simp [xfLine, xfBody]

theorem xfNames_words : ∀ s ∈ xfNames, s ≠ [] ∧ ∀ c ∈ s, wordC c = true := by decide

theorem fieldG_left9 {w rest : List UInt8} {n : Nat} (hw : w ≠ []) (h : ∀ c ∈ w, blankC c = false) : fieldG [] (leftS w n ++ 9 :: rest) = w :: fieldG [] rest := by
  unfold leftS
  rw [List.append_assoc]
  cases hk : n - w.length with
  | zero => exact fieldG_sep hw h (by decide)
  | succ k =>
    rw [List.replicate_succ, List.cons_append, fieldG_sep hw h (by decide), fieldG_skip k (9 :: rest)]
    rw [show fieldG [] (9 :: rest) = fieldG [] rest from by
      simp only [fieldG]
      rw [if_pos (show blankC 9 = true by decide)]
      simp]

theorem xfOk_name {r : RowD} (h : xfOk r = true) : r.name ≠ [] ∧ ∀ c ∈ r.name, wordC c = true := by
  unfold xfOk at h
  rw [Bool.and_eq_true] at h
  obtain ⟨q, hq1, hq2⟩ := List.any_eq_true.1 h.1
  simp only [beq_iff_eq] at hq2
  rw [← hq2]
  exact xfNames_words q hq1

theorem decV_decS {n : Nat} (h : n < 18446744073709551616) : decV (decS n) = some n := by
  unfold decV
  rw [numV_dec h]
  obtain ⟨_, _, h3⟩ := decS_dig n
  simp [h3]

theorem xfBody_fields {r : RowD} (h : xfOk r = true) : fieldsL (xfBody r) = [r.name, decS (r.N.headD 0)] := by
  obtain ⟨h1, h2⟩ := xfOk_name h
  obtain ⟨_, g2, g3⟩ := decS_dig (r.N.headD 0)
  rw [fieldsL_eq]
  unfold xfBody
  rw [fieldG_left9 h1 (fun c hc => (wordC_blank (h2 c hc)).1), fieldG_last g3 (fun c hc => (digC_blank (g2 c hc)).1)]

theorem xfBody_chars {r : RowD} (h : xfOk r = true) : ∀ c ∈ xfBody r, c.toNat ≠ 10 ∧ plainC c = true := by
  obtain ⟨h1, h2⟩ := xfOk_name h
  obtain ⟨_, g2, g3⟩ := decS_dig (r.N.headD 0)
  intro c hc
  unfold xfBody at hc
  rcases List.mem_append.1 hc with hc | hc
  · rcases leftS_mem hc with hc | rfl
    · have := h2 c hc
      refine ⟨(wordC_blank this).2, ?_⟩
      simp only [wordC, Bool.and_eq_true, decide_eq_true_eq] at this
      simp only [plainC, Bool.and_eq_true, Bool.or_eq_true, decide_eq_true_eq, beq_iff_eq]
      omega
    · decide
  · rcases List.mem_cons.1 hc with rfl | hc
    · decide
    · have := g2 c hc
      refine ⟨(digC_blank this).2, ?_⟩
      have := digC_iff.1 this
      simp only [plainC, Bool.and_eq_true, Bool.or_eq_true, decide_eq_true_eq, beq_iff_eq]
      omega

theorem xfText_lines {rs : List RowD} (h : ∀ r ∈ rs, xfOk r = true) : linesL (xfText rs) = rs.map xfBody := by
  rw [linesL_eq]
  have e : xfText rs = ((rs.map xfBody).map fun l => l ++ [10]).flatten := by
    unfold xfText
    rw [List.map_map]
    congr 1
    exact List.map_congr_left fun r _ => xfLine_body r
  rw [e]
  exact lineG_lines _ (fun l hl c hc => by
    obtain ⟨r, hr, rfl⟩ := List.mem_map.1 hl
    exact (xfBody_chars (h r hr) c hc).1)

theorem named_bodies : ∀ {rs : List RowD}, (∀ r ∈ rs, xfOk r = true) → namedV (rs.map xfBody) = some rs
  | [], _ => rfl
  | r :: rs, h => by
    have h0 := h r (by simp)
    have h1 := named_bodies (rs := rs) (fun q hq => h q (List.mem_cons_of_mem _ hq))
    simp only [List.map_cons, namedV, xfBody_fields h0, h1]
    have hc := h0
    unfold xfOk at hc
    rw [Bool.and_eq_true] at hc
    obtain ⟨n, e1, e2, e3⟩ := cnt31_spec hc.2
    obtain ⟨name, N, S⟩ := r
    simp only at e1 e3
    subst e1; subst e3
    simp only [List.headD_cons, decV_decS (show n < 18446744073709551616 by omega)]

theorem xfFine_all {rs : List RowD} (h : xfFine rs = true) : ∀ r ∈ rs, xfOk r = true := by
  unfold xfFine at h
  rw [Bool.and_eq_true, List.all_eq_true] at h
  exact h.1

theorem xfRead_text {rs : List RowD} (h : xfFine rs = true) : xfRead (xfText rs) = some rs := by
  have ho := xfFine_all h
  unfold xfRead
  rw [xfText_lines ho, named_bodies ho]
  have hp : (xfText rs).all plainC = true := by
    rw [List.all_eq_true]
    intro c hc
    unfold xfText at hc
    obtain ⟨l, hl, hcl⟩ := List.mem_flatten.1 hc
    obtain ⟨r, hr, rfl⟩ := List.mem_map.1 hl
    rw [xfLine_body] at hcl
    rcases List.mem_append.1 hcl with hcl | hcl
    · exact (xfBody_chars (ho r hr) c hcl).2
    · obtain rfl := List.mem_singleton.1 hcl; decide
  simp only [hp, h, Bool.and_self, if_true]

theorem xfTree_node (rs : List RowD) : IsNode (xfTree rs) := by
  refine .mk _ _ _ _ _ _ _ _ (by simp [xfNames]) fun k hk => ?_
  obtain ⟨r, hr, rfl⟩ := List.mem_map.1 hk
  exact .mk _ _ _ _ _ _ _ _ (by simp) (by simp)

theorem ev9_opn (E : Env) (h : E.code 22 = some c9) (w t d : Nat) (Fw : List SV → Option AV) (hw : E.pure w = some Fw) (h25 : E.pure 36 = some F25) (s : List UInt8) (hs : s.length ≤ 40000) (l : List SV) (b : Bool)
    (hF : Fw [.str s] = some (.sv (.tup [.sl l, .bool b, .int .i64 2]))) (n : Nat) : evP E n 22 [.str s, .fn w [] [], .fn t [] [], .fn d [] []] = some (.sv (.bool true)) := by
  unfold evP
  simp only [h]
  have e : ¬ (40000 : Int) < (s.length : Int) := by omega
  simp [c9, List.replicate, e, hw, hF, h25, F25]

theorem ev13_opn (E : Env) (h : E.code 20 = some c13) (w p d : Nat) (Fw : List SV → Option AV) (hw : E.pure w = some Fw) (h25 : E.pure 36 = some F25) (s : List UInt8) (hs : s.length ≤ 40000) (l : List SV) (b : Bool)
    (hF : Fw [.str s] = some (.sv (.tup [.sl l, .bool b, .int .i64 2]))) (n : Nat) : evP E n 20 [.str s, .fn w [] [], .fn p [] [], .fn d [] []] = some (.sv (.bool true)) := by
  unfold evP
  simp only [h]
  have e : ¬ (40000 : Int) < (s.length : Int) := by omega
  cases b <;> simp [c13, List.replicate, e, hw, hF, h25, F25]

def F9xf : List SV → Option AV
  | [.str s, .fn 21 [] [], .fn 18 [] [], .fn 19 [] []] => some (.sv (.bool true))
  | _ => none

def F13xf : List SV → Option AV
  | [.str s, .fn 21 [] [], .fn 17 [] [], .fn 19 [] []] => some (.sv (.bool true))
  | _ => none

end Go.Ev

set_option linter.unusedSimpArgs false
set_option linter.unusedVariables false
namespace Go.Ev
open Go.Proofs

def zzS (S : List (List UInt8)) : Bool := decide (S.length ≤ 2147483647) && S.all fun s => decide (s.length ≤ 2147483647)
def zzRow (r : RowD) : Bool := decide (r.name.length ≤ 2147483647) && decide (r.N.length ≤ 2147483647) && zzS r.S
def zzRows (l : List RowD) : Bool := decide (l.length ≤ 2147483647) && l.all zzRow

theorem loop1080 (E : Env) (cf : CallF) (xs : List SV) (hs : xs.length < 1000000000000) (m : Nat) :
    ∀ (rest : List (List UInt8)) (pre : List SV) (k : Nat), xs = pre ++ strs rest → rest.length < k →
      rounds (evC E cf m b1080_0) k { tm := List.replicate 8 (.sv .undef) ++ [.sv (.sl xs), .sv (.int .i64 xs.length), .sv (.int .i64 pre.length)] ++ List.replicate 7 (.sv .undef), lz := none, bx := [], df := [] } =
        if rest.all (fun s => decide (s.length ≤ 2147483647)) = true then some (.exit 0, { tm := List.replicate 18 (.sv .undef), lz := none, bx := [], df := [] })
        else some (.ret, { tm := [.sv .undef, .sv .undef, .sv (.bool false)] ++ List.replicate 15 (.sv .undef), lz := none, bx := [], df := [] }) := by
  intro rest
  induction rest with
  | nil =>
    intro pre k hsp hk
    obtain ⟨k, rfl⟩ : ∃ k', k = k' + 1 := ⟨k - 1, by omega⟩
    have hlt : ¬ (pre.length < xs.length) := by rw [hsp]; simp [strs]
    refine rounds_out ?_ (by simp)
    simp [b1080_0, List.replicate, hlt]
  | cons c rest ih =>
    intro pre k hsp hk
    obtain ⟨k, rfl⟩ : ∃ k', k = k' + 1 := ⟨k - 1, by omega⟩
    have hlt : pre.length < xs.length := by rw [hsp]; simp [strs]
    have hc : ∀ h : pre.length < xs.length, xs[pre.length]'h = .str c := by subst hsp; simp [strs]
    have hw2 : IntKind.i64.wrap ((pre.length : Int) + 1) = ((pre ++ [SV.str c]).length : Int) := by rw [IntKind.wrap_i64]; simp; omega
    by_cases h1 : c.length ≤ 2147483647
    · have e : ¬ (2147483647 : Int) < (c.length : Int) := by omega
      have := ih (pre ++ [.str c]) k (by rw [hsp]; simp [strs]) (by simp at hk; omega)
      rw [show (c :: rest).all (fun s => decide (s.length ≤ 2147483647)) = rest.all (fun s => decide (s.length ≤ 2147483647)) from by simp [h1], ← this]
      refine rounds_step ?_
      simp [b1080_0, List.replicate, hlt, hc, e, hw2]
    · have e : (2147483647 : Int) < (c.length : Int) := by omega
      rw [if_neg (by simp [h1])]
      refine rounds_out ?_ (by simp)
      simp [b1080_0, List.replicate, hlt, hc, e]

theorem ev1080 (E : Env) (h : E.code 80 = some c1080) (S : List (List UInt8)) (n : Nat) (hn : S.length < n ∨ 2147483647 < S.length) : evP E n 80 [.sl (strs S)] = some (.sv (.bool (zzS S))) := by
  unfold evP
  simp only [h]
  have hst : (strs S).length = S.length := strs_length S
  unfold zzS
  by_cases h1 : S.length ≤ 2147483647
  · have e : ¬ (2147483647 : Int) < (S.length : Int) := by omega
    have hl := loop1080 E (evF E n) (strs S) (by omega) n S [] n rfl (by omega)
    simp only [List.replicate, List.cons_append, List.nil_append, List.length_nil, Int.ofNat_zero, Int.natCast_zero, hst] at hl
    cases hv : S.all (fun s => decide (s.length ≤ 2147483647)) with
    | false => simp only [hv, Bool.false_eq_true, if_false] at hl; simp [c1080, List.replicate, hl, hst, e, h1]
    | true => simp only [hv, if_true] at hl; simp [c1080, List.replicate, hl, hst, e, h1]
  · have e : (2147483647 : Int) < (S.length : Int) := by omega
    simp [c1080, List.replicate, hst, e, h1]

noncomputable def F1080 : List SV → Option AV
  | [.sl l] => onlyIf (l = strs (l.map unstr)) (some (.sv (.bool (zzS (l.map unstr)))))
  | _ => none

theorem ev1035 (E : Env) (h : E.code 35 = some c1035) (h80 : E.pure 80 = some F1080) (r : RowD) (n : Nat) : evP E n 35 [.agg [.str r.name, .sl (u64s r.N), .sl (strs r.S)]] = some (.sv (.bool (zzRow r))) := by
  unfold evP
  simp only [h]
  have hsl : (u64s r.N).length = r.N.length := u64s_length r.N
  have hF : F1080 [.sl (strs r.S)] = some (.sv (.bool (zzS r.S))) := by
    unfold F1080
    simp only [unstrs]
    exact onlyIf_pos trivial
  unfold zzRow
  by_cases h1 : r.name.length ≤ 2147483647
  · have e : ¬ (2147483647 : Int) < (r.name.length : Int) := by omega
    by_cases h2 : r.N.length ≤ 2147483647
    · have e2 : ¬ (2147483647 : Int) < (r.N.length : Int) := by omega
      cases hz : zzS r.S <;> rw [hz] at hF <;> simp [c1035, List.replicate, e, e2, h1, h2, hsl, h80, hF]
    · have e2 : (2147483647 : Int) < (r.N.length : Int) := by omega
      simp [c1035, List.replicate, e, e2, h1, h2, hsl]
  · have e : (2147483647 : Int) < (r.name.length : Int) := by omega
    simp [c1035, List.replicate, e, h1]

noncomputable def F1035 : List SV → Option AV
  | [.agg [.str s, .sl ns, .sl ss]] => onlyIf (SV.agg [.str s, .sl ns, .sl ss] = (unrow (.agg [.str s, .sl ns, .sl ss])).sv) (some (.sv (.bool (zzRow (unrow (.agg [.str s, .sl ns, .sl ss]))))))
  | _ => none

theorem F1035_eq (r : RowD) : F1035 [.agg [.str r.name, .sl (u64s r.N), .sl (strs r.S)]] = some (.sv (.bool (zzRow r))) := by
  have hu : unrow (.agg [.str r.name, .sl (u64s r.N), .sl (strs r.S)]) = r := unrow_sv r
  unfold F1035
  simp only [hu]
  exact onlyIf_pos rfl

theorem loop1015 (E : Env) (cf : CallF) (h35 : E.pure 35 = some F1035) (xs : List SV) (hs : xs.length < 1000000000000) (m : Nat) :
    ∀ (rest : List RowD) (pre : List SV) (bx : List Box) (k : Nat), xs = pre ++ rowsSV rest → rest.length < k →
      ∃ bx', rounds (evC E cf m b1015_0) k { tm := List.replicate 8 (.sv .undef) ++ [.sv (.sl xs), .sv (.int .i64 xs.length), .sv (.int .i64 pre.length)] ++ List.replicate 7 (.sv .undef), lz := none, bx := bx, df := [] } =
        if rest.all zzRow = true then some (.exit 0, { tm := List.replicate 18 (.sv .undef), lz := none, bx := bx', df := [] })
        else some (.ret, { tm := [.sv .undef, .sv .undef, .sv (.bool false)] ++ List.replicate 15 (.sv .undef), lz := none, bx := bx', df := [] }) := by
  intro rest
  induction rest with
  | nil =>
    intro pre bx k hsp hk
    obtain ⟨k, rfl⟩ : ∃ k', k = k' + 1 := ⟨k - 1, by omega⟩
    have hlt : ¬ (pre.length < xs.length) := by rw [hsp]; simp [rowsSV]
    refine ⟨bx, rounds_out ?_ (by simp)⟩
    simp [b1015_0, List.replicate, hlt]
  | cons r rest ih =>
    intro pre bx k hsp hk
    obtain ⟨k, rfl⟩ : ∃ k', k = k' + 1 := ⟨k - 1, by omega⟩
    have hlt : pre.length < xs.length := by rw [hsp]; simp [rowsSV]
    have hc : ∀ h : pre.length < xs.length, xs[pre.length]'h = .agg [.str r.name, .sl (u64s r.N), .sl (strs r.S)] := by subst hsp; simp [rowsSV, RowD.sv]
    have hw2 : IntKind.i64.wrap ((pre.length : Int) + 1) = ((pre ++ [r.sv]).length : Int) := by rw [IntKind.wrap_i64]; simp; omega
    have hF := F1035_eq r
    obtain ⟨bx', he⟩ := ih (pre ++ [r.sv]) (bx ++ [rowBox r]) k (by rw [hsp]; simp [rowsSV]) (by simp at hk; omega)
    cases hz : zzRow r with
    | false =>
      rw [hz] at hF
      refine ⟨bx ++ [rowBox r], ?_⟩
      rw [if_neg (by simp [hz])]
      refine rounds_out ?_ (by simp)
      simp [b1015_0, List.replicate, hlt, hc, h35, hF, rowBox]
    | true =>
      rw [hz] at hF
      refine ⟨bx', ?_⟩
      rw [show (r :: rest).all zzRow = rest.all zzRow from by simp [hz], ← he]
      refine rounds_step ?_
      simp [b1015_0, List.replicate, hlt, hc, h35, hF, rowBox, hw2]

theorem ev1015 (E : Env) (h : E.code 15 = some c1015) (h35 : E.pure 35 = some F1035) (l : List RowD) (n : Nat) (hn : l.length < n ∨ 2147483647 < l.length) : evP E n 15 [.sl (rowsSV l)] = some (.sv (.bool (zzRows l))) := by
  unfold evP
  simp only [h]
  have hst : (rowsSV l).length = l.length := by simp [rowsSV]
  unfold zzRows
  by_cases h1 : l.length ≤ 2147483647
  · have e : ¬ (2147483647 : Int) < (l.length : Int) := by omega
    obtain ⟨bx', hl⟩ := loop1015 E (evF E n) h35 (rowsSV l) (by omega) n l [] [] n rfl (by omega)
    simp only [List.replicate, List.cons_append, List.nil_append, List.length_nil, Int.ofNat_zero, Int.natCast_zero, hst] at hl
    cases hv : l.all zzRow with
    | false => simp only [hv, Bool.false_eq_true, if_false] at hl; simp [c1015, List.replicate, hl, hst, e, h1]
    | true => simp only [hv, if_true] at hl; simp [c1015, List.replicate, hl, hst, e, h1]
  · have e : (2147483647 : Int) < (l.length : Int) := by omega
    simp [c1015, List.replicate, hst, e, h1]

noncomputable def F1015 : List SV → Option AV
  | [.sl l] => onlyIf (l = rowsSV (l.map unrow)) (some (.sv (.bool (zzRows (l.map unrow)))))
  | _ => none

theorem F1015_eq (l : List RowD) : F1015 [.sl (rowsSV l)] = some (.sv (.bool (zzRows l))) := by
  unfold F1015
  simp only [unrows]
  exact onlyIf_pos trivial

end Go.Ev

set_option linter.unusedSimpArgs false
set_option linter.unusedVariables false
namespace Go.Ev
open Go.Proofs

theorem zzRows_fit {l : List RowD} (h : zzRows l = true) (hn : ∀ r ∈ l, ∀ n ∈ r.N, n < 18446744073709551616) (hl : l.length ≤ 1000) : rowsFit3 l := by
  unfold zzRows at h
  rw [Bool.and_eq_true, List.all_eq_true] at h
  refine ⟨by omega, fun r hr => ?_⟩
  have h1 := h.2 r hr
  unfold zzRow zzS at h1
  simp only [Bool.and_eq_true, decide_eq_true_eq, List.all_eq_true] at h1
  obtain ⟨⟨h2, h3⟩, h4, h5⟩ := h1
  exact ⟨by omega, by omega, hn r hr, by omega, fun s hs => by have := h5 s hs; omega⟩

set_option maxHeartbeats 1000000 in
theorem ev1016_long (E : Env) (h : E.code 16 = some c1016) (p t d : Nat) (l : List SV) (hl : 1000 < l.length) (n : Nat) : evP E n 16 [.sl l, .fn p [] [], .fn t [] [], .fn d [] []] = some (.sv (.bool true)) := by
  unfold evP
  simp only [h]
  have e : (1000 : Int) < (l.length : Int) := by omega
  simp [c1016, List.replicate, e]

set_option maxHeartbeats 1000000 in
theorem ev1016_open (E : Env) (h : E.code 16 = some c1016) (p t d : Nat) (Fp : List SV → Option AV) (hp : E.pure p = some Fp) (h25 : E.pure 36 = some F25) (l : List SV) (hl : l.length ≤ 1000) (o : List UInt8) (told : Int)
    (hF : Fp [.sl l] = some (.sv (.tup [.str o, .int .i64 told]))) (ht : told ≠ 1 ∨ 40000 < o.length) (n : Nat) : evP E n 16 [.sl l, .fn p [] [], .fn t [] [], .fn d [] []] = some (.sv (.bool true)) := by
  unfold evP
  simp only [h]
  have e : ¬ (1000 : Int) < (l.length : Int) := by omega
  by_cases h1 : told = 1
  · have e2 : (40000 : Int) < (o.length : Int) := by omega
    simp [c1016, List.replicate, e, hp, hF, h1, e2, h25, F25]
  · have h2 : (told == 1) = false := by simpa using h1
    have h3 : (told != 1) = true := by simp [bne, h2]
    simp [c1016, List.replicate, e, hp, hF, h1, h2, h3, h25, F25]

set_option maxHeartbeats 1000000 in
theorem ev1016_yes (E : Env) (h : E.code 16 = some c1016) (p t d : Nat) (Fp Ft Fd : List SV → Option AV) (hp : E.pure p = some Fp) (ht : E.pure t = some Ft) (hd : E.pure d = some Fd) (h25 : E.pure 36 = some F25) (h26 : E.pure 37 = some F26) (h27 : E.pure 38 = some F27) (l : List SV) (hl : l.length ≤ 1000) (o : List UInt8) (ho : o.length ≤ 40000) (T : SV) (hT : IsNode T)
    (hFp : Fp [.sl l] = some (.sv (.tup [.str o, .int .i64 1]))) (hFt : Ft [.sl l] = some (.sv (.tup [T, .int .i64 1]))) (hFd : Fd [.str o] = some (.sv (.tup [T, .int .i64 0]))) (n : Nat) :
    evP E n 16 [.sl l, .fn p [] [], .fn t [] [], .fn d [] []] = some (.sv (.bool true)) := by
  unfold evP
  simp only [h]
  have e : ¬ (1000 : Int) < (l.length : Int) := by omega
  have e2 : ¬ (40000 : Int) < (o.length : Int) := by omega
  have hF27 : F27 [T] = some (.sv T) := onlyIf_pos hT
  have hF26 : F26 [T, T] = some (.sv (.bool true)) := onlyIf_pos ⟨hT, rfl⟩
  cases hT with
  | mk name kind b i u f s0 kids hl hk =>
    simp only [nodeV] at hFt hFd hF27 hF26
    simp [c1016, List.replicate, e, e2, hp, hFp, hd, hFd, ht, hFt, h27, hF27, h26, hF26, h25, F25]

noncomputable def F1016 : List SV → Option AV
  | [.sl l, .fn 17 [] [], .fn 18 [] [], .fn 19 [] []] => onlyIf (l = rowsSV (l.map unrow) ∧ zzRows (l.map unrow) = true ∧ ∀ r ∈ l.map unrow, ∀ n ∈ r.N, n < 18446744073709551616) (some (.sv (.bool true)))
  | _ => none

noncomputable def F1003 : List SV → Option AV
  | [.sl l] => onlyIf (l = rowsSV (l.map unrow) ∧ ∀ r ∈ l.map unrow, ∀ n ∈ r.N, n < 18446744073709551616) (some (.sv (.bool true)))
  | _ => none

end Go.Ev
