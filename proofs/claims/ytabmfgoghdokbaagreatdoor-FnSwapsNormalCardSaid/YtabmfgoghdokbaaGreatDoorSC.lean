/- The reading of swaps, whole; their tree. -/
/- The plain law of swaps: what the reference reads the program can read. -/
/- The rows of swaps, read by the program. -/
/- The door of swaps. -/
/- What is written of swaps is read again; the law's frame: normal. -/
import Derived.Test.YtabmfgoghdokbaaGreatDoorSB
set_option linter.unusedSimpArgs false
set_option linter.unusedVariables false
namespace Go.Ev
open Go.Proofs

def swText (rs : List RowD) : List UInt8 := swHead ++ (rs.map swLine).flatten

open Classical in
/-- What the reference reads of a text of swaps. -/
noncomputable def swRead (text : List UInt8) : Option (List RowD) :=
  match linesL text with
  | [] => none
  | _ :: ls => match swTab ls with
    | some rs => if text.all plainC = true ∧ rs.all swOk = true ∧ (swText rs = text ∨ (looseV (swText rs) text = true ∧ leadsV text = true)) then some rs else none
    | none => none

def swFit (l : List RowD) : Prop := l.length ≤ 40000 ∧ (∀ r ∈ l, r.fits2) ∧ ∀ r ∈ l, r.name.length ≤ 40000 ∧ ∀ s ∈ r.S, s.length ≤ 40000

theorem swFit.two {l : List RowD} (h : swFit l) : rowsFit2 l := ⟨by have := h.1; omega, h.2.1⟩

open Classical in
noncomputable def F31sw : List SV → Option AV
  | [.str text, .sl rows, .bool ok, .fn 19 [] [], .bool true] => onlyIf (text.length ≤ 40000 ∧ rows = rowsSV (rows.map unrow) ∧ swFit (rows.map unrow)) (some (.sv (.tup (if ok = true ∧ text.all plainC = true ∧ (rows.map unrow).all swOk = true ∧ (swText (rows.map unrow) = text ∨ (looseV (swText (rows.map unrow)) text = true ∧ leadsV text = true)) then [.sl rows, .bool true, .int .i64 1] else [.sl [], .bool false, .int .i64 2]))))
  | _ => none

open Classical in
theorem F31sw_eq (text : List UInt8) (l : List RowD) (ok : Bool) (ht : text.length ≤ 40000) (h : swFit l) :
    F31sw [.str text, .sl (rowsSV l), .bool ok, .fn 19 [] [], .bool true] = some (.sv (.tup (if ok = true ∧ text.all plainC = true ∧ l.all swOk = true ∧ (swText l = text ∨ (looseV (swText l) text = true ∧ leadsV text = true)) then [.sl (rowsSV l), .bool true, .int .i64 1] else [.sl [], .bool false, .int .i64 2]))) := by
  unfold F31sw
  simp only [unrows]
  exact onlyIf_pos ⟨ht, trivial, h⟩

theorem ite_dec {α : Type} {p : Prop} (d1 d2 : Decidable p) (a b : α) : @ite α p d1 a b = @ite α p d2 a b := by
  by_cases h : p
  · rw [if_pos h, if_pos h]
  · rw [if_neg h, if_neg h]

open Classical in
theorem ev31sw (E : Env) (h : E.code 31 = some c31) (h78 : E.pure 78 = some F78) (h79 : E.pure 79 = some F79) (h80 : E.pure 80 = some F80) (h19 : E.pure 19 = some F19) (text : List UInt8) (hs : text.length ≤ 40000) (l : List RowD) (hf : swFit l) (ok : Bool) (n : Nat) :
    evP E n 31 [.str text, .sl (rowsSV l), .bool ok, .fn 19 [] [], .bool true] = some (.sv (.tup (if ok = true ∧ text.all plainC = true ∧ l.all swOk = true ∧ (swText l = text ∨ (looseV (swText l) text = true ∧ leadsV text = true)) then [.sl (rowsSV l), .bool true, .int .i64 1] else [.sl [], .bool false, .int .i64 2]))) := by
  have hF := F19_eq l hf.two
  cases hv : l.all swOk with
  | true =>
    rw [hv, if_pos rfl] at hF
    have := ev31b E h h78 h79 h80 19 F19 h19 text (by omega) (rowsSV l) ok _ 1 (fun _ => swLines_len l hf.1 hf.2.1 hf.2.2 hv) hF n
    rw [this]
    congr 3
    unfold swText
    by_cases hc : ok = true ∧ text.all plainC = true ∧ (1 : Int) = 1 ∧ ((swHead ++ (l.map swLine).flatten = text) ∨ (looseV (swHead ++ (l.map swLine).flatten) text = true ∧ leadsV text = true))
    · rw [if_pos hc, if_pos ⟨hc.1, hc.2.1, rfl, hc.2.2.2⟩]
    · rw [if_neg hc, if_neg (fun hh => hc ⟨hh.1, hh.2.1, rfl, hh.2.2.2⟩)]
  | false =>
    rw [hv] at hF
    have := ev31b E h h78 h79 h80 19 F19 h19 text (by omega) (rowsSV l) ok _ 2 (fun e => by omega) hF n
    rw [this]
    congr 3
    rw [if_neg (fun hh => by have := hh.2.2.1; omega), if_neg (fun hh => by have := hh.2.2.1; cases this)]

theorem ev18 (E : Env) (h : E.code 18 = some c18) (h28 : E.pure 28 = some F28) (h52 : E.pure 52 = some F52) (h53 : E.pure 53 = some F53) (h31 : E.pure 31 = some F31sw) (s : List UInt8) (hs : s.length ≤ 40000) (n : Nat) (hn : s.length + 1 < n) :
    evP E n 18 [.str s] = some (.sv (.tup (match swRead s with | some rs => [.sl (rowsSV rs), .bool true, .int .i64 1] | none => [.sl [], .bool false, .int .i64 2]))) := by
  unfold evP
  simp only [h]
  have hF28 := F28_eq s (by omega)
  obtain ⟨_, k1, k2⟩ := linesV_shape s
  cases hl : linesL s with
  | nil =>
    rw [hl] at hF28
    simp only [strs, List.map_nil] at hF28
    have hc : swRead s = none := by unfold swRead; rw [hl]
    rw [hc]
    simp [c18, List.replicate, h28, hF28]
  | cons f fs =>
    rw [hl] at hF28 k1 k2
    simp only [List.length_cons] at k1
    have he := loop18 E (evF E n) h52 h53 s (strs fs) (by rw [strs_length]; omega) n fs [] [] n rfl (fun x hx => by have := k2 x (by simp [hx]); omega) rfl (by omega)
    simp only [strs, List.map_cons] at hF28
    have e1 : (0 : Int) < (fs.length : Int) + 1 := by omega
    have e2 : (0 : Int) ≤ (fs.length : Int) + 1 := by omega
    have e3 : (1 : Int) ≤ ((fs.length + 1 : Nat) : Int) := by omega
    have e4 : (1 : Int) ≤ (fs.length : Int) + 1 := by omega
    have e5 : ¬ ((fs.length : Int) + 1 < 1) := by omega
    have ht : List.take fs.length (fs.map SV.str) = fs.map SV.str := List.take_of_length_le (by simp)
    simp only [accA, List.replicate, List.cons_append, List.nil_append, List.length_nil, Int.ofNat_zero, Int.natCast_zero, strs, List.length_map] at he
    cases hv : swTab fs with
    | none =>
      simp only [hv] at he
      have hc : swRead s = none := by unfold swRead; rw [hl]; simp only [hv]
      rw [hc]
      simp [c18, List.replicate, h28, hF28, e1, e2, e3, e4, e5, ht, he]
    | some rs =>
      simp only [hv] at he
      obtain ⟨q1, q2, q3⟩ := swTab_fit (B := 40000) (by omega) hv (fun x hx => by have := k2 x (by simp [hx]); omega)
      have hF31 := F31sw_eq s rs true hs ⟨by omega, q2, q3⟩
      by_cases hcond : s.all plainC = true ∧ rs.all swOk = true ∧ (swText rs = s ∨ (looseV (swText rs) s = true ∧ leadsV s = true))
      · have hc : swRead s = some rs := by unfold swRead; rw [hl]; simp only [hv]; rw [if_pos hcond]
        rw [hc]
        rw [if_pos ⟨rfl, hcond⟩] at hF31
        cases rs with
        | nil => simp [rowsSV] at he hF31; simp [c18, List.replicate, h28, hF28, e1, e2, e3, e4, e5, ht, he, h31, hF31, rowsSV, accA]
        | cons r rs => simp [rowsSV] at he hF31; simp [c18, List.replicate, h28, hF28, e1, e2, e3, e4, e5, ht, he, h31, hF31, rowsSV, accA]
      · have hc : swRead s = none := by unfold swRead; rw [hl]; simp only [hv]; rw [if_neg hcond]
        rw [hc]
        rw [if_neg (fun hh => hcond hh.2)] at hF31
        cases rs with
        | nil => simp [rowsSV] at he hF31; simp [c18, List.replicate, h28, hF28, e1, e2, e3, e4, e5, ht, he, h31, hF31, rowsSV, accA]
        | cons r rs => simp [rowsSV] at he hF31; simp [c18, List.replicate, h28, hF28, e1, e2, e3, e4, e5, ht, he, h31, hF31, rowsSV, accA]

noncomputable def F18 : List SV → Option AV
  | [.str s] => onlyIf (s.length ≤ 40000) (some (.sv (.tup (match swRead s with | some rs => [.sl (rowsSV rs), .bool true, .int .i64 1] | none => [.sl [], .bool false, .int .i64 2]))))
  | _ => none

/-! ### The tree -/

def swNode (r : RowD) : SV := match r.N, r.S with
  | [a, b, c], [s] => nodeV [] 8 false 0 0 0 [] [nodeV [70, 105, 108, 101, 110, 97, 109, 101] 5 false 0 0 0 r.name [], nodeV [84, 121, 112, 101] 5 false 0 0 0 s [], nodeV [83, 105, 122, 101] 2 false (i64 a) 0 0 [] [], nodeV [85, 115, 101, 100] 2 false (i64 b) 0 0 [] [], nodeV [80, 114, 105, 111, 114, 105, 116, 121] 2 false (i64 c) 0 0 [] []]
  | _, _ => .undef

set_option maxHeartbeats 4000000 in
theorem loop21 (E : Env) (cf : CallF) (h33 : E.pure 33 = some F33) (h34 : E.pure 34 = some F34) (h66 : E.pure 66 = some F66) (xs : List SV) (m : Nat) (hxs : xs.length < 1000000000) (b0 : AV) :
    ∀ (rest : List RowD) (pre acc : List SV) (bx : List Box) (k : Nat), xs = pre ++ rowsSV rest → (∀ r ∈ rest, swOk r = true) → acc.length = pre.length → rest.length < k →
      rounds (evC E cf m b21_0) k { tm := [.sv .undef, .sv .undef, b0, .sv .undef, .sv .undef, .sv .undef, accA 40 acc] ++ List.replicate 10 (.sv .undef) ++ [.sv (.sl xs), .sv (.int .i64 xs.length), .sv (.int .i64 pre.length)] ++ List.replicate 37 (.sv .undef), lz := none, bx := bx, df := [] } =
        some (.exit 0, { tm := [.sv .undef, .sv .undef, b0, .sv .undef, .sv .undef, .sv .undef, accA 40 (acc ++ rest.map swNode)] ++ List.replicate 50 (.sv .undef), lz := none, bx := bx ++ rest.map rowBox, df := [] }) := by
  intro rest
  induction rest with
  | nil =>
    intro pre acc bx k hsp _ _ hk
    obtain ⟨k, rfl⟩ : ∃ k', k = k' + 1 := ⟨k - 1, by omega⟩
    have hlt : ¬ (pre.length < xs.length) := by rw [hsp]; simp [rowsSV]
    refine rounds_out ?_ (by simp)
    simp [b21_0, List.replicate, hlt]
  | cons r rest ih =>
    intro pre acc bx k hsp hr hal hk
    obtain ⟨k, rfl⟩ : ∃ k', k = k' + 1 := ⟨k - 1, by omega⟩
    have hlt : pre.length < xs.length := by rw [hsp]; simp [rowsSV]
    have hc : ∀ h : pre.length < xs.length, xs[pre.length]'h = r.sv := by subst hsp; simp [rowsSV]
    have he := ih (pre ++ [r.sv]) (acc ++ [swNode r]) (bx ++ [rowBox r]) k (by rw [hsp]; simp [rowsSV]) (fun q hq => hr q (by simp [hq])) (by simp [hal]) (by simp at hk; omega)
    rw [show acc ++ (r :: rest).map swNode = acc ++ [swNode r] ++ rest.map swNode from by simp, show bx ++ (r :: rest).map rowBox = bx ++ [rowBox r] ++ rest.map rowBox from by simp, ← he]
    refine rounds_step ?_
    obtain ⟨a, b, c, s, e1, e2, _⟩ := swOk_spec (hr r (by simp))
    obtain ⟨name, N, S⟩ := r
    simp only at e1 e2
    subst e1; subst e2
    have hw2 : IntKind.i64.wrap ((pre.length : Int) + 1) = ((pre ++ [RowD.sv ⟨name, [a, b, c], [s]⟩]).length : Int) := by rw [IntKind.wrap_i64]; simp; omega
    have hl1 : (acc.length + 1) * 96 ≤ 140737488355328 := by omega
    have hl2 : acc.length + 1 ≤ 140737488355328 := by omega
    have wa : IntKind.i64.wrap (a : Int) = i64 a := rfl
    have wb : IntKind.i64.wrap (b : Int) = i64 b := rfl
    have wc : IntKind.i64.wrap (c : Int) = i64 c := rfl
    simp only [RowD.sv] at hc hw2 ⊢
    cases acc with
    | nil => simp [b21_0, List.replicate, hlt, hc, h33, h34, h66, F33, F34, F66, nodeV, swNode, u64s, strs, wa, wb, wc, hw2, accA, rowBox]
    | cons q qs =>
      simp only [List.length_cons] at hl1 hl2
      simp [b21_0, List.replicate, hlt, hc, h33, h34, h66, F33, F34, F66, nodeV, swNode, u64s, strs, wa, wb, wc, hw2, accA, hl1, hl2, rowBox]

def swTree (rs : List RowD) : SV := nodeV [] 6 false 0 0 0 [] (rs.map swNode)

theorem ev21 (E : Env) (h : E.code 21 = some c21) (h19 : E.pure 19 = some F19) (h33 : E.pure 33 = some F33) (h34 : E.pure 34 = some F34) (h36 : E.pure 36 = some F36) (h66 : E.pure 66 = some F66) (l : List RowD) (hf : rowsFit2 l) (hok : l.all swOk = true) (n : Nat) (hn : l.length < n) :
    evP E n 21 [.sl (rowsSV l)] = some (.sv (.tup [swTree l, .int .i64 1])) := by
  unfold evP
  simp only [h]
  have hlen : (rowsSV l).length = l.length := by simp [rowsSV]
  have hF := F19_eq l hf
  rw [if_pos hok] at hF
  have he := loop21 E (evF E n) h33 h34 h66 (rowsSV l) n (by rw [hlen]; have := hf.1; omega) (.ptr 0 0) l [] [] [.live [.sv (.str []), .sv (.int .i64 0), .sv (.bool false), .sv (.int .i64 0), .sv (.int .u64 0), .sv (.flt .f64 0), .sv (.str []), .sv .nilS]] n rfl (by simpa using hok) rfl hn
  simp only [accA, List.replicate, List.cons_append, List.nil_append, List.length_nil, Int.ofNat_zero, Int.natCast_zero] at he
  cases l with
  | nil => simp at he; simp [c21, List.replicate, h19, hF, he, h36, F36, swTree, nodeV, accA]
  | cons r rs => simp at he; simp [c21, List.replicate, h19, hF, he, h36, F36, swTree, nodeV, accA]

noncomputable def F21 : List SV → Option AV
  | [.sl l] => onlyIf (l = rowsSV (l.map unrow) ∧ rowsFit2 (l.map unrow) ∧ (l.map unrow).all swOk = true) (some (.sv (.tup [swTree (l.map unrow), .int .i64 1])))
  | _ => none

theorem F21_eq (l : List RowD) (h : rowsFit2 l) (ho : l.all swOk = true) : F21 [.sl (rowsSV l)] = some (.sv (.tup [swTree l, .int .i64 1])) := by
  unfold F21
  simp only [unrows]
  exact onlyIf_pos ⟨trivial, h, ho⟩

end Go.Ev

set_option linter.unusedSimpArgs false
set_option linter.unusedVariables false
namespace Go.Ev
open Go.Proofs

inductive All2 {α β : Type} (R : α → β → Prop) : List α → List β → Prop
  | nil : All2 R [] []
  | cons {a : α} {b : β} {l : List α} {m : List β} (h : R a b) (t : All2 R l m) : All2 R (a :: l) (b :: m)

theorem fieldG_noblank : ∀ (s cur : List UInt8), (∀ c ∈ cur, blankC c = false) → ∀ f ∈ fieldG cur s, ∀ c ∈ f, blankC c = false
  | [], cur, h, f, hf => by
    simp only [fieldG] at hf
    split at hf
    · simp at hf
    · obtain rfl := List.mem_singleton.1 hf; exact h
  | c :: s, cur, h, f, hf => by
    simp only [fieldG] at hf
    split at hf
    · split at hf
      · exact fieldG_noblank s [] (by simp) f hf
      · rcases List.mem_cons.1 hf with rfl | hf
        · exact h
        · exact fieldG_noblank s [] (by simp) f hf
    · rename_i hb
      refine fieldG_noblank s (cur ++ [c]) (fun d hd => ?_) f hf
      rcases List.mem_append.1 hd with hd | hd
      · exact h d hd
      · obtain rfl := List.mem_singleton.1 hd; simpa using hb

theorem fieldG_skip : ∀ (k : Nat) (rest : List UInt8), fieldG [] (List.replicate k 32 ++ rest) = fieldG [] rest
  | 0, rest => rfl
  | k + 1, rest => by
    rw [List.replicate_succ, List.cons_append]
    simp only [fieldG]
    rw [if_pos (show blankC 32 = true by decide)]
    simp only [if_true]
    exact fieldG_skip k rest

theorem fieldG_word : ∀ (w cur rest : List UInt8), (∀ c ∈ w, blankC c = false) → fieldG cur (w ++ rest) = fieldG (cur ++ w) rest
  | [], cur, rest, _ => by simp
  | c :: w, cur, rest, h => by
    have h1 := h c (by simp)
    simp only [List.cons_append, fieldG, h1, Bool.false_eq_true, if_false]
    rw [fieldG_word w (cur ++ [c]) rest (fun x hx => h x (by simp [hx]))]
    simp

theorem fieldG_sep {w rest : List UInt8} {c : UInt8} (hw : w ≠ []) (h : ∀ c ∈ w, blankC c = false) (hc : blankC c = true) : fieldG [] (w ++ c :: rest) = w :: fieldG [] rest := by
  rw [fieldG_word w [] _ h]
  simp [fieldG, hc, hw]

theorem fieldG_last {w : List UInt8} (hw : w ≠ []) (h : ∀ c ∈ w, blankC c = false) : fieldG [] w = [w] := by
  have := fieldG_word w [] [] h
  simp only [List.append_nil, List.nil_append] at this
  rw [this]; simp [fieldG, hw]

theorem fieldG_left {w rest : List UInt8} {n : Nat} (hw : w ≠ []) (h : ∀ c ∈ w, blankC c = false) : fieldG [] (leftS w n ++ 32 :: rest) = w :: fieldG [] rest := by
  unfold leftS
  rw [List.append_assoc]
  cases hk : n - w.length with
  | zero => exact fieldG_sep hw h (by decide)
  | succ k =>
    rw [List.replicate_succ, List.cons_append, fieldG_sep hw h (by decide)]
    have := fieldG_skip (k + 1) rest
    rw [show List.replicate k 32 ++ 32 :: rest = List.replicate (k + 1) 32 ++ rest from by rw [List.replicate_succ']; simp, this]

theorem isWord_spec {s : List UInt8} (h : isWord s = true) : s ≠ [] ∧ ∀ c ∈ s, wordC c = true := by
  unfold isWord at h
  simp only [Bool.and_eq_true, Bool.not_eq_true', beq_eq_false_iff_ne, List.all_eq_true] at h
  exact ⟨h.2, h.1⟩

theorem wordC_blank {c : UInt8} (h : wordC c = true) : blankC c = false ∧ c.toNat ≠ 10 := by
  simp only [wordC, Bool.and_eq_true, decide_eq_true_eq] at h
  refine ⟨?_, by omega⟩
  simp [blankC]; omega

theorem digC_blank {c : UInt8} (h : digC c = true) : blankC c = false ∧ c.toNat ≠ 10 := by
  have := digC_iff.1 h
  refine ⟨?_, by omega⟩
  simp [blankC]; omega

theorem sdecS_sign {n : Int} : sdecS n ≠ [] ∧ ∀ c ∈ sdecS n, blankC c = false ∧ c.toNat ≠ 10 := by
  unfold sdecS
  split
  · obtain ⟨_, h2, _⟩ := decS_dig (-n).toNat
    refine ⟨by simp, fun c hc => ?_⟩
    rcases List.mem_cons.1 hc with rfl | hc
    · decide
    · exact digC_blank (h2 c hc)
  · obtain ⟨_, h2, h3⟩ := decS_dig n.toNat
    exact ⟨h3, fun c hc => digC_blank (h2 c hc)⟩

def swBody (r : RowD) : List UInt8 := match r.N, r.S with
  | [a, b, c], [s] => leftS r.name 39 ++ 32 :: (leftS s 15 ++ 32 :: (decS a ++ 9 :: (decS b ++ 9 :: sdecS (i64 c))))
  | _, _ => []

theorem leftS_mem {s : List UInt8} {n : Nat} {c : UInt8} (h : c ∈ leftS s n) : c ∈ s ∨ c = 32 := by
  unfold leftS at h
  rcases List.mem_append.1 h with h | h
  · exact .inl h
  · exact .inr (List.mem_replicate.1 h).2

theorem swBody_spec {r : RowD} (h : swOk r = true) : swLine r = swBody r ++ [10] ∧ (∀ c ∈ swBody r, c.toNat ≠ 10) ∧ ∃ a b c s, r.N = [a, b, c] ∧ r.S = [s] ∧ fieldsL (swBody r) = [r.name, s, decS a, decS b, sdecS (i64 c)] := by
  obtain ⟨a, b, c, s, e1, e2, w1, w2, _⟩ := swOk_spec h
  obtain ⟨name, N, S⟩ := r
  simp only at e1 e2
  subst e1; subst e2
  obtain ⟨n1, n2⟩ := isWord_spec w1
  obtain ⟨s1, s2⟩ := isWord_spec w2
  obtain ⟨_, a2, a3⟩ := decS_dig a
  obtain ⟨_, b2, b3⟩ := decS_dig b
  obtain ⟨c1, c2⟩ := sdecS_sign (n := i64 c)
  have hb : swBody ⟨name, [a, b, c], [s]⟩ = leftS name 39 ++ 32 :: (leftS s 15 ++ 32 :: (decS a ++ 9 :: (decS b ++ 9 :: sdecS (i64 c)))) := rfl
  refine ⟨by rw [hb]; simp [swLine], fun d hd => ?_, a, b, c, s, rfl, rfl, ?_⟩
  · rw [hb] at hd
    simp only [List.mem_append, List.mem_cons] at hd
    rcases hd with hd | rfl | hd | rfl | hd | rfl | hd | rfl | hd
    · rcases leftS_mem hd with hd | rfl
      · exact (wordC_blank (n2 d hd)).2
      · decide
    · decide
    · rcases leftS_mem hd with hd | rfl
      · exact (wordC_blank (s2 d hd)).2
      · decide
    · decide
    · exact (digC_blank (a2 d hd)).2
    · decide
    · exact (digC_blank (b2 d hd)).2
    · decide
    · exact (c2 d hd).2
  · rw [fieldsL_eq, hb, fieldG_left n1 (fun c hc => (wordC_blank (n2 c hc)).1), fieldG_left s1 (fun c hc => (wordC_blank (s2 c hc)).1), fieldG_sep a3 (fun c hc => (digC_blank (a2 c hc)).1) (by decide), fieldG_sep b3 (fun c hc => (digC_blank (b2 c hc)).1) (by decide), fieldG_last c1 (fun d hd => (c2 d hd).1)]

theorem lineG_lines : ∀ (ls : List (List UInt8)), (∀ l ∈ ls, ∀ c ∈ l, c.toNat ≠ 10) → lineG [] (ls.map fun l => l ++ [10]).flatten = ls
  | [], _ => rfl
  | l :: ls, h => by
    simp only [List.map_cons, List.flatten_cons, List.append_assoc, List.cons_append, List.nil_append]
    rw [lineG_no (cur := []) l _ (h l (by simp))]
    simp only [lineG, List.nil_append]
    rw [if_pos (by rfl), lineG_lines ls (fun x hx => h x (by simp [hx]))]

def swHeadL : List UInt8 := [70, 105, 108, 101, 110, 97, 109, 101, 9, 9, 9, 9, 84, 121, 112, 101, 9, 9, 83, 105, 122, 101, 9, 85, 115, 101, 100, 9, 80, 114, 105, 111, 114, 105, 116, 121]

theorem swText_lines {rs : List RowD} (h : ∀ r ∈ rs, swOk r = true) : linesL (swText rs) = swHeadL :: rs.map swBody := by
  rw [linesL_eq]
  have e : swText rs = ((swHeadL :: rs.map swBody).map fun l => l ++ [10]).flatten := by
    have : rs.map swLine = (rs.map swBody).map fun l => l ++ [10] := by
      rw [List.map_map]
      exact List.map_congr_left fun r hr => (swBody_spec (h r hr)).1
    simp only [swText, this, List.map_cons, List.flatten_cons]
    rfl
  rw [e]
  refine lineG_lines _ fun l hl c hc => ?_
  rcases List.mem_cons.1 hl with rfl | hl
  · exact (show ∀ c ∈ swHeadL, c.toNat ≠ 10 by decide) c hc
  · obtain ⟨r, hr, rfl⟩ := List.mem_map.1 hl
    exact (swBody_spec (h r hr)).2.1 c hc

theorem cut32 : ∀ {x x' t t' : List UInt8}, (∀ c ∈ x, blankC c = false) → (∀ c ∈ x', blankC c = false) → x ++ 32 :: t = x' ++ 32 :: t' → x = x' ∧ t = t'
  | [], [], t, t', _, _, h => by simpa using h
  | [], c :: x', t, t', _, h2, h => by
    simp only [List.nil_append, List.cons_append, List.cons.injEq] at h
    have := h2 c (by simp)
    rw [← h.1] at this
    exact absurd this (by decide)
  | c :: x, [], t, t', h1, _, h => by
    simp only [List.nil_append, List.cons_append, List.cons.injEq] at h
    have := h1 c (by simp)
    rw [h.1] at this
    exact absurd this (by decide)
  | c :: x, c' :: x', t, t', h1, h2, h => by
    simp only [List.cons_append, List.cons.injEq] at h
    obtain ⟨h3, h4⟩ := cut32 (fun d hd => h1 d (by simp [hd])) (fun d hd => h2 d (by simp [hd])) h.2
    exact ⟨by rw [h.1, h3], h4⟩

theorem norm5 {n s x y z x' y' z' : List UInt8} (hx : ∀ c ∈ x, blankC c = false) (hy : ∀ c ∈ y, blankC c = false) (hx' : ∀ c ∈ x', blankC c = false) (hy' : ∀ c ∈ y', blankC c = false) (h : joinS [32] [n, s, x, y, z] = joinS [32] [n, s, x', y', z']) : x = x' ∧ y = y' ∧ z = z' := by
  simp only [joinS, List.map_cons, List.map_nil, List.flatten_cons, List.flatten_nil, List.append_nil, List.append_assoc, List.cons_append, List.nil_append, List.append_cancel_left_eq, List.cons.injEq, true_and] at h
  obtain ⟨h1, h2⟩ := cut32 hx hx' h
  obtain ⟨h3, h4⟩ := cut32 hy hy' h2
  exact ⟨h1, h3, h4⟩

/-- What a row of swaps is in the program. -/
def swVal (r : RowD) : List SV := match r.N, r.S with
  | [a, b, c], [s] => [.str r.name, .str s, .int .i64 (i64 a), .int .i64 (i64 b), .int .i64 (i64 c)]
  | _, _ => []

/-- What is known of a line and its row. -/
def swPair (l : List UInt8) (r : RowD) : Prop := swOk r = true ∧ ∃ a b c s x y z, r.N = [a, b, c] ∧ r.S = [s] ∧ fieldsL l = [r.name, s, x, y, z] ∧ atoiV x = some (i64 a) ∧ atoiV y = some (i64 b) ∧ atoiV z = some (i64 c)

theorem i64_small {n : Nat} (h : n < 9223372036854775808) : i64 n = (n : Int) := by unfold i64; rw [IntKind.wrap_i64]; omega

theorem swTab_pairs : ∀ {ls : List (List UInt8)} {rs : List RowD}, swTab ls = some rs → (∀ r ∈ rs, swOk r = true) → (rs.map swBody).map normL = ls.map normL → All2 swPair ls rs
  | [], rs, h, _, _ => by simp only [swTab, Option.some.injEq] at h; subst h; exact .nil
  | l :: ls, rs, h, ho, hn => by
    simp only [swTab] at h
    split at h <;> try (simp at h; done)
    rename_i a b x y z hf
    split at h <;> try (simp at h; done)
    rename_i N hN
    split at h <;> simp only [Option.some.injEq, reduceCtorEq] at h
    rename_i rs' hrs
    subst h
    simp only [List.map_cons, List.cons.injEq] at hn
    have ho1 := ho ⟨a, N, [b]⟩ (by simp)
    refine .cons ?_ (swTab_pairs hrs (fun r hr => ho r (by simp [hr])) hn.2)
    obtain ⟨_, _, p, q, c, s, e1, e2, e3⟩ := swBody_spec ho1
    obtain ⟨_, _, _, _, e1', e2', _, _, lp, lq⟩ := swOk_spec ho1
    simp only at e1 e2 e1' e2'
    rw [e1] at e1'
    simp only [List.cons.injEq, and_true] at e1'
    obtain ⟨rfl, rfl, rfl⟩ := e1'
    simp only [List.cons.injEq, and_true] at e2
    subst e2
    have hn1 := hn.1
    unfold normL at hn1
    rw [e3, hf] at hn1
    simp only at hn1
    have hfb : ∀ f ∈ fieldsL l, ∀ c ∈ f, blankC c = false := by rw [fieldsL_eq]; exact fieldG_noblank l [] (by simp)
    rw [hf] at hfb
    obtain ⟨_, p2, _⟩ := decS_dig p
    obtain ⟨_, q2, _⟩ := decS_dig q
    obtain ⟨g1, g2, g3⟩ := norm5 (fun c hc => (digC_blank (p2 c hc)).1) (fun c hc => (digC_blank (q2 c hc)).1) (hfb x (by simp)) (hfb y (by simp)) hn1
    subst g1; subst g2; subst g3
    obtain ⟨r1, r2⟩ := i64_range c
    have hdec : ∀ n : Nat, n < 4611686018427387904 → atoiV (decS n) = some (i64 n) := by
      intro n hn
      have := atoiV_sdec (n := (n : Int)) (by omega) (by omega)
      unfold sdecS at this
      rw [if_neg (by omega)] at this
      rw [i64_small (by omega)]
      simpa using this
    exact ⟨ho1, p, q, c, b, _, _, _, e1, rfl, hf, hdec p lp, hdec q lq, atoiV_sdec r1 r2⟩

theorem swRead_spec {s : List UInt8} {rs : List RowD} (h : swRead s = some rs) : ∃ hd ls, linesL s = hd :: ls ∧ swTab ls = some rs ∧ (∀ r ∈ rs, swOk r = true) ∧ (∀ c ∈ s, plainC c = true) ∧ All2 swPair ls rs := by
  unfold swRead at h
  split at h
  · cases h
  · rename_i hd ls hl
    split at h
    · rename_i rs' htab
      split at h <;> simp only [Option.some.injEq, reduceCtorEq] at h
      rename_i hc
      subst h
      have ho := List.all_eq_true.1 hc.2.1
      refine ⟨hd, ls, hl, htab, ho, List.all_eq_true.1 hc.1, swTab_pairs htab ho ?_⟩
      have hloose : (linesL (swText rs')).map normL = (linesL s).map normL := by
        rcases hc.2.2 with e | ⟨e, _⟩
        · rw [e]
        · unfold looseV at e
          split at e
          · assumption
          · cases e
      rw [swText_lines ho, hl] at hloose
      simp only [List.map_cons, List.cons.injEq] at hloose
      exact hloose.2
    · cases h

end Go.Ev

set_option linter.unusedSimpArgs false
set_option linter.unusedVariables false
namespace Go.Ev
open Go.Proofs

noncomputable def F143s : List SV → Option AV
  | [.str s] => match atoiV s with
    | some v => onlyIf (s.length < 1000000000000) (some (.sv (.tup [.int .i64 v, .nilI])))
    | none => none
  | _ => none

theorem F143s_eq {s : List UInt8} {v : Int} (hv : atoiV s = some v) (hs : s.length < 1000000000000) : F143s [.str s] = some (.sv (.tup [.int .i64 v, .nilI])) := by
  unfold F143s
  simp only [hv]
  exact onlyIf_pos hs

theorem ev129 (E : Env) (h : E.code 129 = some c129) (h127 : E.pure 127 = some F127) (h143 : E.pure 143 = some F143s) (s w t x y z : List UInt8) (a b c : Int) (hs : s.length < 100000000000) (h8 : ∀ c ∈ s, c.toNat < 128)
    (hw : wordsG [] s = [w, t, x, y, z]) (hx : atoiV x = some a) (hy : atoiV y = some b) (hz : atoiV z = some c) (lx : x.length < 1000000000000) (ly : y.length < 1000000000000) (lz : z.length < 1000000000000) (n : Nat) :
    evP E n 129 [.str s] = some (.sv (.tup [.ref [.str w, .str t, .int .i64 a, .int .i64 b, .int .i64 c], .nilI])) := by
  unfold evP
  simp only [h]
  have hF := F127_eq s (by omega) h8
  rw [hw] at hF
  simp only [strs, List.map_cons, List.map_nil] at hF
  have gx := F143s_eq hx lx
  have gy := F143s_eq hy ly
  have gz := F143s_eq hz lz
  simp [c129, List.replicate, h127, hF, h143, gx, gy, gz]

noncomputable def F129 : List SV → Option AV
  | [.str s] => match wordsG [] s with
    | [w, t, x, y, z] => match atoiV x, atoiV y, atoiV z with
      | some a, some b, some c => onlyIf (s.length < 100000000000 ∧ (∀ c ∈ s, c.toNat < 128) ∧ x.length < 1000000000000 ∧ y.length < 1000000000000 ∧ z.length < 1000000000000) (some (.sv (.tup [.ref [.str w, .str t, .int .i64 a, .int .i64 b, .int .i64 c], .nilI])))
      | _, _, _ => none
    | _ => none
  | _ => none

theorem plain_lt {c : UInt8} (h : plainC c = true) : c.toNat < 128 ∧ c.toNat ≠ 13 := by
  simp only [plainC, Bool.and_eq_true, Bool.or_eq_true, decide_eq_true_eq, beq_iff_eq] at h
  omega

theorem F129_eq {l : List UInt8} {r : RowD} (h : swPair l r) (hp : ∀ c ∈ l, plainC c = true ∧ c.toNat ≠ 10) (hl : l.length < 100000000000) : F129 [.str l] = some (.sv (.tup [.ref (swVal r), .nilI])) := by
  obtain ⟨_, a, b, c, s, x, y, z, e1, e2, e3, e4, e5, e6⟩ := h
  obtain ⟨_, _, k2⟩ := fieldsV_shape l
  rw [e3] at k2
  unfold F129
  simp only [words_fields hp, e3, e4, e5, e6]
  rw [onlyIf_pos ⟨hl, fun c hc => (plain_lt (hp c hc).1).1, by have := k2 x (by simp); omega, by have := k2 y (by simp); omega, by have := k2 z (by simp); omega⟩]
  obtain ⟨name, N, S⟩ := r
  simp only at e1 e2
  subst e1; subst e2
  rfl

theorem lineG_plain {s : List UInt8} : ∀ l ∈ lineG [] s, (∀ c ∈ l, c.toNat ≠ 10) ∧ (∀ c ∈ l, c ∈ s) ∧ l.length ≤ s.length := by
  have key : ∀ (n : Nat) (s : List UInt8), s.length ≤ n → ∀ l ∈ lineG [] s, (∀ c ∈ l, c.toNat ≠ 10) ∧ (∀ c ∈ l, c ∈ s) ∧ l.length ≤ s.length := by
    intro n
    induction n with
    | zero =>
      intro s hs l hl
      obtain rfl : s = [] := List.eq_nil_of_length_eq_zero (by omega)
      simp [lineG] at hl
    | succ n ih =>
      intro s hs l hl
      rcases line_cases s with rfl | ⟨line, rest, h1, h2, h3⟩
      · simp [lineG] at hl
      · rw [h2] at hl
        rcases h3 with h3 | ⟨h3, h4, _⟩
        · rcases List.mem_cons.1 hl with rfl | hl
          · exact ⟨h1, fun c hc => by rw [h3]; simp [hc], by rw [h3]; simp⟩
          · have hrl : rest.length ≤ n := by rw [h3] at hs; simp at hs; omega
            obtain ⟨g1, g2, g3⟩ := ih rest hrl l hl
            exact ⟨g1, fun c hc => by rw [h3]; simp [g2 c hc], by rw [h3]; simp; omega⟩
        · subst h4
          simp only [lineG, if_true, List.mem_cons, List.not_mem_nil, or_false] at hl
          subst hl
          exact ⟨h1, fun c hc => by rw [h3]; exact hc, by rw [h3]; exact Nat.le_refl _⟩
  exact key s.length s (Nat.le_refl _)

/-- A scanner's step, whatever the text. -/
theorem scanG (E : Env) (h : E.code 88 = some c88) (s t line rest : List UInt8) (h1 : ∀ c ∈ line, c.toNat ≠ 10) (h3 : (s = line ++ 10 :: rest) ∨ (s = line ∧ rest = [] ∧ line ≠ [])) (hl : s.length < 65536) (hr : ∀ c ∈ s, c.toNat ≠ 13) (n : Nat) (hn : s.length < n) :
    evF E (n + 1) 88 [.ptr 0 0] [scanBox s t] = some (.sv (.bool true), [scanBox rest line]) := by
  rcases h3 with h3 | ⟨h3, h4, h5⟩
  · subst h3
    simp only [List.length_append, List.length_cons] at hl hn
    exact scan88 E h 0 [scanBox (line ++ 10 :: rest) t] line rest t rfl (by omega) (by omega) (fun c hc => ⟨h1 c hc, hr c (by simp [hc])⟩) n (by omega)
  · subst h4
    rw [h3]
    rw [h3] at hl hr hn
    exact scan88n E h 0 [scanBox line t] line t rfl h5 hl (fun c hc => ⟨h1 c hc, hr c hc⟩) n hn

def swRows (rs : List RowD) : List SV := rs.map fun r => .ref (swVal r)

theorem loop114 (E : Env) (N : Nat) (h88 : E.code 88 = some c88) (h90 : E.code 90 = some c90) (hp88 : E.pure 88 = none) (hp90 : E.pure 90 = none) (h129 : E.pure 129 = some F129) (m : Nat) :
    ∀ (rs : List RowD) (s : List UInt8) (acc : List SV) (t : List UInt8) (k : Nat), All2 swPair (lineG [] s) rs → (∀ c ∈ s, plainC c = true) → s.length < 65536 → s.length < N → acc.length + rs.length < 1000000000 → rs.length < k →
      rounds (evC E (evF E (N + 1)) m b114_0) k { tm := [.sv .undef, .sv .undef, .sv .undef, .sv .undef, .own 92 acc, .ptr 0 0] ++ List.replicate 30 (.sv .undef), lz := none, bx := [scanBox s t], df := [] } =
        some (.exit 0, { tm := [.sv .undef, .sv .undef, .sv .undef, .sv .undef, .own 92 (acc ++ swRows rs), .ptr 0 0] ++ List.replicate 30 (.sv .undef), lz := none, bx := [scanBox [] []], df := [] }) := by
  intro rs
  induction rs with
  | nil =>
    intro s acc t k hp hs hl hN hal hk
    obtain ⟨k, rfl⟩ : ∃ k', k = k' + 1 := ⟨k - 1, by omega⟩
    obtain rfl : s = [] := by
      rcases line_cases s with h | ⟨line, rest, _, h2, _⟩
      · exact h
      · rw [h2] at hp; cases hp
    have hsc := scan88e E h88 0 [scanBox [] t] t rfl N
    refine rounds_out ?_ (by simp)
    simp at hsc
    simp [b114_0, List.replicate, hp88, hsc, swRows]
  | cons r rs ih =>
    intro s acc t k hp hs hl hN hal hk
    obtain ⟨k, rfl⟩ : ∃ k', k = k' + 1 := ⟨k - 1, by omega⟩
    rcases line_cases s with rfl | ⟨line, rest, h1, h2, h3⟩
    · simp only [lineG, if_true] at hp; cases hp
    · rw [h2] at hp
      cases hp with
      | cons hpr hps =>
        have hsub : (∀ c ∈ line, c ∈ s) ∧ (∀ c ∈ rest, c ∈ s) ∧ line.length ≤ s.length ∧ rest.length ≤ s.length := by
          rcases h3 with h3 | ⟨h3, h4, _⟩
          · rw [h3]; refine ⟨fun c hc => by simp [hc], fun c hc => by simp [hc], by simp, by simp; omega⟩
          · rw [h3, h4]; exact ⟨fun c hc => hc, fun c hc => by simp at hc, Nat.le_refl _, by simp⟩
        obtain ⟨u1, u2, u3, u4⟩ := hsub
        have hsc := scanG E h88 s t line rest h1 h3 hl (fun c hc => (plain_lt (hs c hc)).2) N hN
        have h90' := evF90 E h90 N 0 [scanBox rest line] rest line rfl
        have hF := F129_eq hpr (fun c hc => ⟨hs c (u1 c hc), h1 c hc⟩) (by omega)
        have he := ih rest (acc ++ [.ref (swVal r)]) line k hps (fun c hc => hs c (u2 c hc)) (by omega) (by omega) (by simp at hal ⊢; omega) (by simp at hk; omega)
        rw [show acc ++ swRows (r :: rs) = acc ++ [.ref (swVal r)] ++ swRows rs from by simp [swRows], ← he]
        refine rounds_step ?_
        have hl1 : (acc.length + 1) * 8 ≤ 140737488355328 := by simp at hal; omega
        have hl2 : acc.length + 1 ≤ 140737488355328 := by simp at hal; omega
        simp [b114_0, List.replicate, hp88, hp90, h129, hsc, h90', hF, hl1, hl2]

theorem swRead_len {s : List UInt8} {rs : List RowD} (h : swRead s = some rs) (hs : s.length ≤ 40000) : rs.length ≤ 40000 ∧ swFit rs := by
  obtain ⟨hd, ls, h1, h2, h3, h4, h5⟩ := swRead_spec h
  obtain ⟨_, k1, k2⟩ := linesV_shape s
  rw [h1] at k1 k2
  obtain ⟨q1, q2, q3⟩ := swTab_fit (B := 40000) (by omega) h2 (fun x hx => by have := k2 x (by simp [hx]); omega)
  simp only [List.length_cons] at k1
  exact ⟨by omega, by omega, q2, q3⟩

theorem ev114 (E : Env) (h : E.code 114 = some c114) (h87 : E.code 87 = some c87) (h88 : E.code 88 = some c88) (h90 : E.code 90 = some c90) (h128 : E.code 128 = some c128) (hp87 : E.pure 87 = none) (hp88 : E.pure 88 = none) (hp90 : E.pure 90 = none) (hp128 : E.pure 128 = none)
    (h129 : E.pure 129 = some F129) (s : List UInt8) (rs : List RowD) (hr : swRead s = some rs) (hs : s.length ≤ 40000) (N : Nat) (hN : s.length + 1 < N) :
    evP E (N + 1) 114 [.sl (bytesSV s)] = some (.sv (.tup [.sl (swRows rs), .nilI])) := by
  obtain ⟨hd, ls, q1, q2, q3, q4, q5⟩ := swRead_spec hr
  obtain ⟨l1, l2⟩ := swRead_len hr hs
  have hlen : rs.length ≤ s.length := by
    obtain ⟨_, k1, _⟩ := linesV_shape s
    rw [q1] at k1
    obtain ⟨g1, _⟩ := swTab_fit (B := 40000) (by omega) q2 (fun x hx => by
      obtain ⟨_, _, k2⟩ := linesV_shape s
      rw [q1] at k2; have := k2 x (by simp [hx]); omega)
    simp only [List.length_cons] at k1; omega
  unfold evP
  simp only [h]
  have hb := svBytes_bytes s
  have h87' := evF87 E h87 N [] s
  rw [linesL_eq] at q1
  rcases line_cases s with rfl | ⟨line, rest, c1, c2, c3⟩
  · simp [lineG] at q1
  · rw [c2] at q1
    simp only [List.cons.injEq] at q1
    obtain ⟨e1, e2⟩ := q1
    rw [← e2] at q5
    have hrest : rest.length ≤ s.length ∧ ∀ c ∈ rest, c ∈ s := by
      rcases c3 with h3 | ⟨h3, h4, _⟩
      · rw [h3]; exact ⟨by simp; omega, fun c hc => by simp [hc]⟩
      · rw [h4]; simp
    have hsc := scanG E h88 s [] line rest c1 c3 (by omega) (fun c hc => (plain_lt (q4 c hc)).2) N (by omega)
    have h128' := evF128 E h128 N 0 [scanBox [] []] [] [] rfl
    have he := loop114 E N h88 h90 hp88 hp90 h129 (N + 1) rs rest [] line (N + 1) q5 (fun c hc => q4 c (hrest.2 c hc)) (by omega) (by omega) (by simp; omega) (by omega)
    simp only [List.replicate, List.cons_append, List.nil_append] at he
    simp at h87'
    simp [c114, List.replicate, hb, hp87, h87', hp88, hsc, he, hp128, h128']

noncomputable def F114 : List SV → Option AV
  | [.sl bs] => match svBytes bs with
    | some s => match swRead s with
      | some rs => onlyIf (s.length ≤ 40000 ∧ bs = bytesSV s) (some (.sv (.tup [.sl (swRows rs), .nilI])))
      | none => none
    | none => none
  | _ => none

theorem F114_eq {s : List UInt8} {rs : List RowD} (hr : swRead s = some rs) (hs : s.length ≤ 40000) : F114 [.sl (bytesSV s)] = some (.sv (.tup [.sl (swRows rs), .nilI])) := by
  unfold F114
  simp only [svBytes_bytes, hr]
  exact onlyIf_pos ⟨hs, trivial⟩

theorem ev60 (E : Env) (h : E.code 60 = some c60) (h85 : E.pure 85 = some F85) (h99 : E.pure 99 = some F99) (h114 : E.pure 114 = some F114) (s : List UInt8) (rs : List RowD) (hr : swRead s = some rs) (hs : s.length ≤ 40000) (n : Nat) :
    evP E n 60 [.agg [.str s]] = some (.sv (.tup [.sl (swRows rs), .nilI])) := by
  unfold evP
  simp only [h]
  have hF := F114_eq hr hs
  have hF99 : F99 [.str s] = some (.sv (.tup [.sl (bytesSV s), .nilI])) := onlyIf_pos (by omega)
  simp [c60, List.replicate, h85, F85, h99, hF99, h114, hF]

noncomputable def F60 : List SV → Option AV
  | [.agg [.str s]] => match swRead s with
    | some rs => onlyIf (s.length ≤ 40000) (some (.sv (.tup [.sl (swRows rs), .nilI])))
    | none => none
  | _ => none

end Go.Ev

set_option linter.unusedSimpArgs false
set_option linter.unusedVariables false
namespace Go.Ev
open Go.Proofs

def swOne (n w t : List UInt8) (a b c : Int) : SV := nodeV n 8 false 0 0 0 [] [nodeV [70, 105, 108, 101, 110, 97, 109, 101] 5 false 0 0 0 w [], nodeV [84, 121, 112, 101] 5 false 0 0 0 t [], nodeV [83, 105, 122, 101] 2 false a 0 0 [] [], nodeV [85, 115, 101, 100] 2 false b 0 0 [] [], nodeV [80, 114, 105, 111, 114, 105, 116, 121] 2 false c 0 0 [] []]

theorem ev65 (E : Env) (h : E.code 65 = some c65) (n w t : List UInt8) (a b c : Int) (k : Nat) : evP E k 65 [.str n, .agg [.str w, .str t, .int .i64 a, .int .i64 b, .int .i64 c]] = some (.sv (swOne n w t a b c)) := by
  unfold evP
  simp only [h]
  simp [c65, List.replicate, swOne, nodeV]

def F65 : List SV → Option AV
  | [.str n, .agg [.str w, .str t, .int .i64 a, .int .i64 b, .int .i64 c]] => some (.sv (swOne n w t a b c))
  | _ => none

theorem ev64 (E : Env) (h : E.code 64 = some c64) (h65 : E.pure 65 = some F65) (n w t : List UInt8) (a b c : Int) (k : Nat) : evP E k 64 [.str n, .ref [.str w, .str t, .int .i64 a, .int .i64 b, .int .i64 c], .fn 65 [] []] = some (.sv (swOne n w t a b c)) := by
  unfold evP
  simp only [h]
  simp [c64, List.replicate, h65, F65, swOne, nodeV]

def F64 : List SV → Option AV
  | [.str n, .ref [.str w, .str t, .int .i64 a, .int .i64 b, .int .i64 c], .fn 65 [] []] => some (.sv (swOne n w t a b c))
  | _ => none

theorem ev63 (E : Env) (h : E.code 63 = some c63) (h64 : E.pure 64 = some F64) (w t : List UInt8) (a b c : Int) (k : Nat) : evP E k 63 [.ref [.str w, .str t, .int .i64 a, .int .i64 b, .int .i64 c]] = some (.sv (swOne [] w t a b c)) := by
  unfold evP
  simp only [h]
  simp [c63, List.replicate, h64, F64, swOne, nodeV]

def F63 : List SV → Option AV
  | [.ref [.str w, .str t, .int .i64 a, .int .i64 b, .int .i64 c]] => some (.sv (swOne [] w t a b c))
  | _ => none

theorem swOk_val {r : RowD} (h : swOk r = true) : F63 [.ref (swVal r)] = some (.sv (swNode r)) ∧ ∃ k1 k2, swNode r = nodeV [] 8 false 0 0 0 [] (k1 :: k2) := by
  obtain ⟨a, b, c, s, e1, e2, _⟩ := swOk_spec h
  obtain ⟨name, N, S⟩ := r
  simp only at e1 e2
  subst e1; subst e2
  exact ⟨rfl, _, _, rfl⟩

set_option maxHeartbeats 4000000 in
theorem loop62 (E : Env) (cf : CallF) (h63 : E.pure 63 = some F63) (xs : List SV) (m : Nat) (hxs : xs.length < 1000000000) (bx0 : Box) (n : List UInt8) :
    ∀ (rest : List RowD) (pre acc : List SV) (k : Nat), xs = pre ++ swRows rest → (∀ r ∈ rest, swOk r = true) → acc.length = pre.length → rest.length < k →
      rounds (evC E cf m b62_0) k { tm := [.sv .undef, .sv .undef, .sv (.fn 63 [] []), .sv .undef, .sv .undef, .sv .undef, .ptr 0 0, .ptr 1 0, .sv .undef, .sv .undef, .sv .undef, .sv .undef, .sv (.sl xs), .sv (.int .i64 xs.length), .sv (.int .i64 pre.length)] ++ List.replicate 13 (.sv .undef), lz := none, bx := [bx0, nodeBox n 6 false 0 0 0 [] (accC 36 acc)], df := [] } =
        some (.exit 0, { tm := [.sv .undef, .sv .undef, .sv .undef, .sv .undef, .sv .undef, .sv .undef, .ptr 0 0, .ptr 1 0] ++ List.replicate 20 (.sv .undef), lz := none, bx := [bx0, nodeBox n 6 false 0 0 0 [] (accC 36 (acc ++ rest.map swNode))], df := [] }) := by
  intro rest
  induction rest with
  | nil =>
    intro pre acc k hsp _ _ hk
    obtain ⟨k, rfl⟩ : ∃ k', k = k' + 1 := ⟨k - 1, by omega⟩
    have hlt : ¬ (pre.length < xs.length) := by rw [hsp]; simp [swRows]
    refine rounds_out ?_ (by simp)
    simp [b62_0, List.replicate, hlt]
  | cons r rest ih =>
    intro pre acc k hsp hr hal hk
    obtain ⟨k, rfl⟩ : ∃ k', k = k' + 1 := ⟨k - 1, by omega⟩
    have hlt : pre.length < xs.length := by rw [hsp]; simp [swRows]
    have hc : ∀ h : pre.length < xs.length, xs[pre.length]'h = .ref (swVal r) := by subst hsp; simp [swRows]
    have hw2 : IntKind.i64.wrap ((pre.length : Int) + 1) = ((pre ++ [SV.ref (swVal r)]).length : Int) := by rw [IntKind.wrap_i64]; simp; omega
    have hl1 : (acc.length + 1) * 96 ≤ 140737488355328 := by omega
    have hl2 : acc.length + 1 ≤ 140737488355328 := by omega
    obtain ⟨hF, k1, k2, hn⟩ := swOk_val (hr r (by simp))
    have he := ih (pre ++ [.ref (swVal r)]) (acc ++ [swNode r]) k (by rw [hsp]; simp [swRows]) (fun q hq => hr q (by simp [hq])) (by simp [hal]) (by simp at hk; omega)
    rw [show acc ++ (r :: rest).map swNode = acc ++ [swNode r] ++ rest.map swNode from by simp, ← he]
    refine rounds_step ?_
    rw [hn] at hF ⊢
    simp only [nodeV] at hF ⊢
    cases acc with
    | nil => simp [b62_0, List.replicate, hlt, hc, hw2, h63, hF, nodeBox, accC]
    | cons y0 ys =>
      simp only [List.length_cons] at hl1 hl2
      simp [b62_0, List.replicate, hlt, hc, hw2, h63, hF, nodeBox, accC, hl1, hl2]

theorem ev62 (E : Env) (h : E.code 62 = some c62) (h63 : E.pure 63 = some F63) (rs : List RowD) (hr : ∀ r ∈ rs, swOk r = true) (hl : rs.length < 1000000000) (k : Nat) (hk : rs.length < k) :
    evP E k 62 [.str [], .sl (swRows rs), .fn 63 [] []] = some (.sv (swTree rs)) := by
  unfold evP
  simp only [h]
  have he := loop62 E (evF E k) h63 (swRows rs) k (by simpa [swRows] using hl) zeroBox [] rs [] [] k rfl hr rfl hk
  simp only [accC, List.replicate, List.cons_append, List.nil_append, List.length_nil, Int.ofNat_zero, Int.natCast_zero, nodeBox, zeroBox] at he
  unfold swTree
  cases hc : rs.map swNode with
  | nil => simp only [hc, accC] at he; simp [c62, List.replicate, he, nodeV]
  | cons v vs => simp only [hc, accC] at he; simp [c62, List.replicate, he, nodeV]

def unsw : SV → RowD
  | .ref [.str w, .str t, .int _ a, .int _ b, .int _ c] => ⟨w, [twoN a, twoN b, twoN c], [t]⟩
  | _ => ⟨[], [], []⟩
where twoN (n : Int) : Nat := (IntKind.u64.wrap n).toNat

theorem unsws : ∀ {rs : List RowD}, (∀ r ∈ rs, swOk r = true ∧ r.fits2) → (swRows rs).map unsw = rs
  | [], _ => rfl
  | r :: rs, h => by
    have ih := unsws (rs := rs) (fun q hq => h q (by simp [hq]))
    simp only [swRows, List.map_cons] at ih ⊢
    rw [ih]
    obtain ⟨h1, h2⟩ := h r (by simp)
    obtain ⟨a, b, c, s, e1, e2, _⟩ := swOk_spec h1
    obtain ⟨name, N, S⟩ := r
    simp only at e1 e2
    subst e1; subst e2
    have hN : ∀ n ∈ [a, b, c], n < 18446744073709551616 := h2.2.2.1
    have tw : ∀ n : Nat, n < 18446744073709551616 → unsw.twoN (i64 n) = n := by
      intro n hn
      unfold unsw.twoN i64
      rw [IntKind.wrap_u64, IntKind.wrap_i64]; omega
    simp only [swVal, unsw, tw a (hN a (by simp)), tw b (hN b (by simp)), tw c (hN c (by simp))]

noncomputable def F62 : List SV → Option AV
  | [.str [], .sl l, .fn 63 [] []] => onlyIf (l = swRows (l.map unsw) ∧ (∀ r ∈ l.map unsw, swOk r = true) ∧ l.length < 1000000000) (some (.sv (swTree (l.map unsw))))
  | _ => none

theorem F62_eq {rs : List RowD} (h : ∀ r ∈ rs, swOk r = true ∧ r.fits2) (hl : rs.length < 1000000000) : F62 [.str [], .sl (swRows rs), .fn 63 [] []] = some (.sv (swTree rs)) := by
  unfold F62
  simp only [unsws h]
  exact onlyIf_pos ⟨trivial, fun r hr => (h r hr).1, by simpa [swRows] using hl⟩

theorem ev61 (E : Env) (h : E.code 61 = some c61) (h62 : E.pure 62 = some F62) (l : List SV) (h1 : l = swRows (l.map unsw)) (h2 : ∀ r ∈ l.map unsw, swOk r = true) (h3 : l.length < 1000000000) (k : Nat) :
    evP E k 61 [.sl l] = some (.sv (swTree (l.map unsw))) := by
  unfold evP
  simp only [h]
  have hF : F62 [.str [], .sl l, .fn 63 [] []] = some (.sv (swTree (l.map unsw))) := onlyIf_pos ⟨h1, h2, h3⟩
  unfold swTree nodeV at hF ⊢
  simp [c61, List.replicate, h62, hF]

noncomputable def F61 : List SV → Option AV
  | [.sl l] => onlyIf (l = swRows (l.map unsw) ∧ (∀ r ∈ l.map unsw, swOk r = true) ∧ l.length < 1000000000) (some (.sv (swTree (l.map unsw))))
  | _ => none

theorem F61_eq {rs : List RowD} (h : ∀ r ∈ rs, swOk r = true ∧ r.fits2) (hl : rs.length < 1000000000) : F61 [.sl (swRows rs)] = some (.sv (swTree rs)) := by
  unfold F61
  simp only [unsws h]
  exact onlyIf_pos ⟨trivial, fun r hr => (h r hr).1, by simpa [swRows] using hl⟩

theorem F60_eq {s : List UInt8} {rs : List RowD} (hr : swRead s = some rs) (hs : s.length ≤ 40000) : F60 [.agg [.str s]] = some (.sv (.tup [.sl (swRows rs), .nilI])) := by
  unfold F60
  simp only [hr]
  exact onlyIf_pos hs

theorem swRead_rows {s : List UInt8} {rs : List RowD} (hr : swRead s = some rs) (hs : s.length ≤ 40000) : ∀ r ∈ rs, swOk r = true ∧ r.fits2 := by
  obtain ⟨_, _, _, _, q3, _, _⟩ := swRead_spec hr
  obtain ⟨_, _, l2, _⟩ := swRead_len hr hs
  exact fun r h => ⟨q3 r h, l2 r h⟩

theorem ev59 (E : Env) (h : E.code 59 = some c59) (hq : E.quiet 113 = true) (h60 : E.pure 60 = some F60) (h61 : E.pure 61 = some F61) (s : List UInt8) (rs : List RowD) (hr : swRead s = some rs) (hs : s.length ≤ 40000) (k : Nat) :
    evP E k 59 [.fn 60 [.agg [.str s]] [], .fn 61 [] []] = some (.sv (.tup [swTree rs, .int .i64 0])) := by
  unfold evP
  simp only [h]
  have hF := F60_eq hr hs
  have hl := (swRead_len hr hs).1
  have hF2 := F61_eq (swRead_rows hr hs) (by omega)
  unfold swTree nodeV at hF2 ⊢
  simp [c59, List.replicate, h60, hF, h61, hF2, hq]

noncomputable def F59 : List SV → Option AV
  | [.fn 60 [.agg [.str s]] [], .fn 61 [] []] => match swRead s with
    | some rs => onlyIf (s.length ≤ 40000) (some (.sv (.tup [swTree rs, .int .i64 0])))
    | none => none
  | _ => none

theorem F59_eq {s : List UInt8} {rs : List RowD} (hr : swRead s = some rs) (hs : s.length ≤ 40000) : F59 [.fn 60 [.agg [.str s]] [], .fn 61 [] []] = some (.sv (.tup [swTree rs, .int .i64 0])) := by
  unfold F59
  simp only [hr]
  exact onlyIf_pos hs

theorem ev20 (E : Env) (h : E.code 20 = some c20) (h38 : E.pure 38 = some F38) (h59 : E.pure 59 = some F59) (s : List UInt8) (rs : List RowD) (hr : swRead s = some rs) (hs : s.length ≤ 40000) (k : Nat) :
    evP E k 20 [.str s] = some (.sv (.tup [swTree rs, .int .i64 0])) := by
  unfold evP
  simp only [h]
  have hF := F59_eq hr hs
  unfold swTree nodeV at hF ⊢
  simp [c20, List.replicate, h38, F38, h59, hF]

noncomputable def F20 : List SV → Option AV
  | [.str s] => match swRead s with
    | some rs => onlyIf (s.length ≤ 40000) (some (.sv (.tup [swTree rs, .int .i64 0])))
    | none => none
  | _ => none

theorem F20_eq {s : List UInt8} {rs : List RowD} (hr : swRead s = some rs) (hs : s.length ≤ 40000) : F20 [.str s] = some (.sv (.tup [swTree rs, .int .i64 0])) := by
  unfold F20
  simp only [hr]
  exact onlyIf_pos hs

end Go.Ev

set_option linter.unusedSimpArgs false
set_option linter.unusedVariables false
namespace Go.Ev
open Go.Proofs

theorem digitV_dig {c : UInt8} (h : digC c = true) : digitV c.toNat = dgt c ∧ dgt c ≤ 9 := by
  have := digC_iff.1 h
  unfold digitV dgt
  rw [if_pos this]; omega

theorem numV_dig : ∀ (s : List UInt8) (a : Nat), (∀ c ∈ s, digC c = true) → digN a s < 18446744073709551616 → numV 10 a s = some (digN a s)
  | [], a, _, _ => by rw [digN_nil]; rfl
  | c :: s, a, h, hb => by
    obtain ⟨h1, h2⟩ := digitV_dig (h c (by simp))
    rw [digN_cons] at hb ⊢
    have hge := digN_ge s (a * 10 + dgt c)
    simp only [numV, h1]
    generalize dgt c = d at *
    rw [if_neg (by omega)]
    exact numV_dig s (a * 10 + d) (fun x hx => h x (by simp [hx])) hb

theorem numV_dec {n : Nat} (h : n < 18446744073709551616) : numV 10 0 (decS n) = some n := by
  obtain ⟨e1, e2, _⟩ := decS_dig n
  have := numV_dig (decS n) 0 e2 (by rw [e1]; exact h)
  rw [this, e1]

theorem wholeV_dec {n : Nat} (h : n < 18446744073709551616) : wholeV (decS n) = some n := by
  obtain ⟨e1, e2, e3⟩ := decS_dig n
  have hn := numV_dec h
  cases hs : decS n with
  | nil => exact absurd hs e3
  | cons c t =>
    rw [hs] at e2 hn
    have := digC_iff.1 (e2 c (by simp))
    unfold wholeV
    simp only
    rw [if_neg (by omega)]
    exact hn

theorem wholeV_sdec {n : Nat} (h : n < 18446744073709551616) : wholeV (sdecS (i64 n)) = some n := by
  unfold sdecS
  by_cases hn : i64 n < 0
  · rw [if_pos hn]
    have hi : i64 n = (n : Int) - 18446744073709551616 := by
      unfold i64 at hn ⊢
      rw [IntKind.wrap_i64] at hn ⊢; omega
    have hle : (-(i64 n)).toNat ≤ 9223372036854775808 := by have := i64_range n; omega
    have hm := numV_dec (n := (-(i64 n)).toNat) (by omega)
    obtain ⟨_, _, e3⟩ := decS_dig (-(i64 n)).toNat
    have hneg : negV (decS (-(i64 n)).toNat) = some (-(i64 n)).toNat := by
      unfold negV
      rw [hm]
      simp only
      rw [if_neg (fun hh => by rcases hh with hh | hh; omega; exact e3 hh)]
    unfold wholeV
    simp only
    rw [if_pos (show (45 : UInt8).toNat = 45 from rfl), hneg]
    simp only [Option.some.injEq]
    unfold twoC
    omega
  · rw [if_neg hn]
    have hi : i64 n = (n : Int) := by
      unfold i64 at hn ⊢
      rw [IntKind.wrap_i64] at hn ⊢; omega
    rw [hi, Int.toNat_natCast]
    exact wholeV_dec h

theorem swTab_bodies : ∀ {rs : List RowD}, (∀ r ∈ rs, swOk r = true ∧ r.fits2) → swTab (rs.map swBody) = some rs
  | [], _ => rfl
  | r :: rs, h => by
    obtain ⟨h1, h2⟩ := h r (by simp)
    obtain ⟨_, _, a, b, c, s, e1, e2, e3⟩ := swBody_spec h1
    have hN := h2.2.2.1
    simp only [List.map_cons, swTab, e3]
    rw [e1] at hN
    have hw : wholesV [decS a, decS b, sdecS (i64 c)] = some [a, b, c] := by
      simp only [wholesV, wholeV_dec (hN a (by simp)), wholeV_dec (hN b (by simp)), wholeV_sdec (hN c (by simp))]
    rw [hw, swTab_bodies (fun q hq => h q (by simp [hq]))]
    obtain ⟨name, N, S⟩ := r
    simp only at e1 e2
    subst e1; subst e2
    rfl

theorem wordC_plain {c : UInt8} (h : wordC c = true) : plainC c = true := by
  simp only [wordC, Bool.and_eq_true, decide_eq_true_eq] at h
  simp [plainC]; omega

theorem digC_plain {c : UInt8} (h : digC c = true) : plainC c = true := by
  have := digC_iff.1 h
  simp [plainC]; omega

theorem sdecS_plain {n : Int} : ∀ c ∈ sdecS n, plainC c = true := by
  unfold sdecS
  split
  · obtain ⟨_, h2, _⟩ := decS_dig (-n).toNat
    intro c hc
    rcases List.mem_cons.1 hc with rfl | hc
    · decide
    · exact digC_plain (h2 c hc)
  · obtain ⟨_, h2, _⟩ := decS_dig n.toNat
    exact fun c hc => digC_plain (h2 c hc)

theorem swText_plain {rs : List RowD} (h : ∀ r ∈ rs, swOk r = true) : ∀ c ∈ swText rs, plainC c = true := by
  intro c hc
  unfold swText at hc
  rcases List.mem_append.1 hc with hc | hc
  · exact (show ∀ c ∈ swHead, plainC c = true by decide) c hc
  · obtain ⟨l, hl, hc⟩ := List.mem_flatten.1 hc
    obtain ⟨r, hr, rfl⟩ := List.mem_map.1 hl
    obtain ⟨a, b, k, s, e1, e2, w1, w2, _⟩ := swOk_spec (h r hr)
    obtain ⟨n1, n2⟩ := isWord_spec w1
    obtain ⟨s1, s2⟩ := isWord_spec w2
    obtain ⟨_, a2, _⟩ := decS_dig a
    obtain ⟨_, b2, _⟩ := decS_dig b
    obtain ⟨name, N, S⟩ := r
    simp only at e1 e2
    subst e1; subst e2
    simp only [swLine, List.mem_append, List.mem_cons, List.not_mem_nil, or_false] at hc
    rcases hc with (((((((((hc | rfl) | hc) | rfl) | hc) | rfl) | hc) | rfl) | hc) | rfl)
    · rcases leftS_mem hc with hc | rfl
      · exact wordC_plain (n2 c hc)
      · decide
    · decide
    · rcases leftS_mem hc with hc | rfl
      · exact wordC_plain (s2 c hc)
      · decide
    · decide
    · exact digC_plain (a2 c hc)
    · decide
    · exact digC_plain (b2 c hc)
    · decide
    · exact sdecS_plain c hc
    · decide

/-- What is written of rows is read as these rows. -/
theorem swRead_text {rs : List RowD} (h : ∀ r ∈ rs, swOk r = true ∧ r.fits2) : swRead (swText rs) = some rs := by
  have ho : ∀ r ∈ rs, swOk r = true := fun r hr => (h r hr).1
  unfold swRead
  rw [swText_lines ho]
  simp only [swTab_bodies h]
  rw [if_pos ⟨List.all_eq_true.2 (swText_plain ho), List.all_eq_true.2 ho, .inl trivial⟩]

/-! ### normal -/

theorem ev13_long (E : Env) (h : E.code 13 = some c13) (w p d : Nat) (s : List UInt8) (hs : 40000 < s.length) (n : Nat) : evP E n 13 [.str s, .fn w [] [], .fn p [] [], .fn d [] []] = some (.sv (.bool true)) := by
  unfold evP
  simp only [h]
  have e : (40000 : Int) < (s.length : Int) := by omega
  simp [c13, List.replicate, e]

theorem ev13_open (E : Env) (h : E.code 13 = some c13) (w p d : Nat) (Fw : List SV → Option AV) (hw : E.pure w = some Fw) (h25 : E.pure 25 = some F25) (s : List UInt8) (hs : s.length ≤ 40000)
    (hF : Fw [.str s] = some (.sv (.tup [.sl [], .bool false, .int .i64 2]))) (n : Nat) : evP E n 13 [.str s, .fn w [] [], .fn p [] [], .fn d [] []] = some (.sv (.bool true)) := by
  unfold evP
  simp only [h]
  have e : ¬ (40000 : Int) < (s.length : Int) := by omega
  simp [c13, List.replicate, e, hw, hF, h25, F25]

set_option maxHeartbeats 1000000 in
theorem ev13_yes (E : Env) (h : E.code 13 = some c13) (w p d : Nat) (Fw Fp Fd : List SV → Option AV) (hw : E.pure w = some Fw) (hp : E.pure p = some Fp) (hd : E.pure d = some Fd) (h25 : E.pure 25 = some F25) (h26 : E.pure 26 = some F26) (h27 : E.pure 27 = some F27) (s o : List UInt8) (hs : s.length ≤ 40000) (rows : List SV) (T : SV) (hT : IsNode T)
    (hFw : Fw [.str s] = some (.sv (.tup [.sl rows, .bool true, .int .i64 1]))) (hFp : Fp [.sl rows] = some (.sv (.tup [.str o, .int .i64 1]))) (hFd : Fd [.str s] = some (.sv (.tup [T, .int .i64 0]))) (hFo : o.length ≤ 40000 → Fd [.str o] = some (.sv (.tup [T, .int .i64 0]))) (n : Nat) :
    evP E n 13 [.str s, .fn w [] [], .fn p [] [], .fn d [] []] = some (.sv (.bool true)) := by
  unfold evP
  simp only [h]
  have e : ¬ (40000 : Int) < (s.length : Int) := by omega
  have hF27 : F27 [T] = some (.sv T) := onlyIf_pos hT
  have hF26 : F26 [T, T] = some (.sv (.bool true)) := onlyIf_pos ⟨hT, rfl⟩
  cases hT with
  | mk name kind b i u f s0 kids hl hk =>
    simp only [nodeV] at hFd hFo hF27 hF26
    by_cases ho : o.length ≤ 40000
    · have eo : ¬ (40000 : Int) < (o.length : Int) := by omega
      have hFo := hFo ho
      simp [c13, List.replicate, e, hw, hFw, hp, hFp, eo, hd, hFd, hFo, h27, hF27, h26, hF26, h25, F25]
    · have eo : (40000 : Int) < (o.length : Int) := by omega
      simp [c13, List.replicate, e, hw, hFw, hp, hFp, eo, h25, F25]

theorem swTree_node {rs : List RowD} (h : ∀ r ∈ rs, swOk r = true) (hl : rs.length < 1000000000) : IsNode (swTree rs) := by
  refine .mk _ _ _ _ _ _ _ _ (by simpa using hl) fun k hk => ?_
  obtain ⟨r, hr, rfl⟩ := List.mem_map.1 hk
  obtain ⟨a, b, c, s, e1, e2, _⟩ := swOk_spec (h r hr)
  obtain ⟨name, N, S⟩ := r
  simp only at e1 e2
  subst e1; subst e2
  refine .mk _ _ _ _ _ _ _ _ (by simp) fun k hk => ?_
  simp only [List.mem_cons, List.not_mem_nil, or_false] at hk
  rcases hk with rfl | rfl | rfl | rfl | rfl <;> exact .mk _ _ _ _ _ _ _ _ (by simp) (by simp)

theorem F18_eq (s : List UInt8) (hs : s.length ≤ 40000) : F18 [.str s] = some (.sv (.tup (match swRead s with | some rs => [.sl (rowsSV rs), .bool true, .int .i64 1] | none => [.sl [], .bool false, .int .i64 2]))) := onlyIf_pos hs

theorem ev9_sw (E : Env) (h : E.code 9 = some c9) (h18 : E.pure 18 = some F18) (h21 : E.pure 21 = some F21) (h20 : E.pure 20 = some F20) (h25 : E.pure 25 = some F25) (h26 : E.pure 26 = some F26) (h27 : E.pure 27 = some F27) (s : List UInt8) (n : Nat) :
    evP E n 9 [.str s, .fn 18 [] [], .fn 21 [] [], .fn 20 [] []] = some (.sv (.bool true)) := by
  by_cases hs : 40000 < s.length
  · exact ev9_long E h 18 21 20 s hs n
  · have hF := F18_eq s (by omega)
    cases hr : swRead s with
    | none => rw [hr] at hF; exact ev9_open E h 18 21 20 F18 h18 h25 s (by omega) hF n
    | some rs =>
      rw [hr] at hF
      obtain ⟨f1, f2⟩ := swRead_len hr (by omega)
      have hok : ∀ r ∈ rs, swOk r = true := fun r h => (swRead_rows hr (by omega) r h).1
      exact ev9_yes E h 18 21 20 F18 F21 F20 h18 h21 h20 h25 h26 h27 s (by omega) _ _ (swTree_node hok (by omega)) hF (F21_eq rs f2.two (List.all_eq_true.2 hok)) (F20_eq hr (by omega)) n

theorem ev13_sw (E : Env) (h : E.code 13 = some c13) (h18 : E.pure 18 = some F18) (h19 : E.pure 19 = some F19) (h20 : E.pure 20 = some F20) (h25 : E.pure 25 = some F25) (h26 : E.pure 26 = some F26) (h27 : E.pure 27 = some F27) (s : List UInt8) (n : Nat) :
    evP E n 13 [.str s, .fn 18 [] [], .fn 19 [] [], .fn 20 [] []] = some (.sv (.bool true)) := by
  by_cases hs : 40000 < s.length
  · exact ev13_long E h 18 19 20 s hs n
  · have hF := F18_eq s (by omega)
    cases hr : swRead s with
    | none => rw [hr] at hF; exact ev13_open E h 18 19 20 F18 h18 h25 s (by omega) hF n
    | some rs =>
      rw [hr] at hF
      obtain ⟨f1, f2⟩ := swRead_len hr (by omega)
      have hrow := swRead_rows hr (by omega)
      have hok : ∀ r ∈ rs, swOk r = true := fun r h => (hrow r h).1
      have hFp := F19_eq rs f2.two
      rw [if_pos (List.all_eq_true.2 hok)] at hFp
      exact ev13_yes E h 18 19 20 F18 F19 F20 h18 h19 h20 h25 h26 h27 s (swText rs) (by omega) _ _ (swTree_node hok (by omega)) hF hFp (F20_eq hr (by omega)) (fun ho => F20_eq (swRead_text hrow) ho) n

def F9sw : List SV → Option AV
  | [.str s, .fn 18 [] [], .fn 21 [] [], .fn 20 [] []] => some (.sv (.bool true))
  | _ => none

def F13sw : List SV → Option AV
  | [.str s, .fn 18 [] [], .fn 19 [] [], .fn 20 [] []] => some (.sv (.bool true))
  | _ => none

theorem ev7_call (E : Env) (h : E.code 7 = some c7) (h9 : E.pure 9 = some F9sw) (s : List UInt8) (n : Nat) : evP E n 7 [.str s] = some (.sv (.bool true)) := by
  unfold evP
  simp only [h]
  by_cases hs : 2147483647 < s.length
  · have e : (2147483647 : Int) < (s.length : Int) := by omega
    simp [c7, List.replicate, e]
  · have e : ¬ (2147483647 : Int) < (s.length : Int) := by omega
    simp [c7, List.replicate, e, h9, F9sw]

theorem ev6_call (E : Env) (h : E.code 6 = some c6) (h13 : E.pure 13 = some F13sw) (s : List UInt8) (n : Nat) : evP E n 6 [.str s] = some (.sv (.bool true)) := by
  unfold evP
  simp only [h]
  by_cases hs : 2147483647 < s.length
  · have e : (2147483647 : Int) < (s.length : Int) := by omega
    simp [c6, List.replicate, e]
  · have e : ¬ (2147483647 : Int) < (s.length : Int) := by omega
    simp [c6, List.replicate, e, h13, F13sw]

end Go.Ev
