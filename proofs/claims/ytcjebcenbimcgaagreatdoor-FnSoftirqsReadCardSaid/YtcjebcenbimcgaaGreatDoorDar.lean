/- Softirqs: the reference's printing, whole. -/
/- Softirqs: a table of labels with a colon. -/
/- Softirqs: the reference's tree. -/
/- Softirqs: the reference's tree, whole. -/
/- Softirqs: the reference's reading. -/
/- Softirqs: the loops over a line's numbers. -/
import Derived.Test.YtcjebcenbimcgaaGreatDoorDaq
import Derived.Test.YtcjebcenbimcgaaGreatDoorDan
import Derived.Test.YtcjebcenbimcgaaGreatDoorDao
import Derived.Test.YtcjebcenbimcgaaGreatDoorDal
import Derived.Test.YtcjebcenbimcgaaGreatDoorDag
set_option linter.unusedSimpArgs false
set_option linter.unusedVariables false
namespace Go.Ev
open Go.Proofs

/-- The fields' and the lines' names. -/
def siNm : List (List UInt8 × List UInt8) := [([72, 105], [72, 73]), ([84, 105, 109, 101, 114], [84, 73, 77, 69, 82]), ([78, 101, 116, 84, 120], [78, 69, 84, 95, 84, 88]), ([78, 101, 116, 82, 120], [78, 69, 84, 95, 82, 88]), ([66, 108, 111, 99, 107], [66, 76, 79, 67, 75]), ([73, 82, 81, 80, 111, 108, 108], [73, 82, 81, 95, 80, 79, 76, 76]), ([84, 97, 115, 107, 108, 101, 116], [84, 65, 83, 75, 76, 69, 84]), ([83, 99, 104, 101, 100], [83, 67, 72, 69, 68]), ([72, 82, 84, 105, 109, 101, 114], [72, 82, 84, 73, 77, 69, 82]), ([82, 67, 85], [82, 67, 85])]

def siNames : List SV := siNm.map fun p => .agg [.str p.1, .str p.2]

def S43 (F : List SV → Option AV) : Prop := F [] = some (.sv (.sl siNames))

theorem ev43 (E : Env) (h : E.code 56 = some c43) : S43 (autoF E 56) := by
  refine autoA_sl (n := 1) (r := .own 76 siNames) ?_ rfl
  unfold evPA
  simp only [h]
  simp [c43, siNames, siNm]

theorem siLine_len {r : RowD} (hn : ∀ n ∈ r.N, n < 18446744073709551616) : (siLine r).length ≤ r.name.length + 20 + r.N.length * 31 := by
  have key : ∀ l : List Nat, (∀ n ∈ l, n < 18446744073709551616) → ((l.map siCol).flatten).length ≤ l.length * 31 := by
    intro l
    induction l with
    | nil => intro _; simp
    | cons x xs ih =>
      intro hx
      have h1 := ih fun n hn => hx n (by simp [hn])
      have h2 := decS_len20 (hx x (by simp))
      have h3 := rightS_len (decS x) 10
      simp only [List.map_cons, List.flatten_cons, List.length_append, List.length_cons, siCol] at *
      omega
  have h1 := key r.N hn
  have h2 := rightS_len r.name 12
  unfold siLine
  simp only [List.length_append, List.length_cons, List.length_nil]
  omega

theorem loop15r (E : Env) (cf : CallF) (m : Nat) (h46 : Has E 59 S46) (h45 : E.pure 58 = some F45) (rows names : List SV) (hrl : rows.length < 1000) (h0 : 0 < rows.length) (r0 : RowD) (hc0 : ∀ h : 0 < rows.length, rows[0]'h = .agg [.str r0.name, .sl (u64s r0.N), .sl (strs r0.S)]) (hm : 1000001 ≤ m) :
    ∀ (ps : List ((List UInt8 × List UInt8) × RowD)) (pre pren : List SV) (out : List UInt8) (j : Nat) (bx : List Box) (k : Nat), rows = pre ++ ps.map (fun p => p.2.sv) → names = pren ++ ps.map (fun p => SV.agg [.str p.1.1, .str p.1.2]) → j = pre.length → j = pren.length →
      (∀ p ∈ ps, p.1.2.length < 100 ∧ p.2.N.length ≤ 1000000 ∧ ∀ n ∈ p.2.N, n < 18446744073709551616) → out.length + ps.length * 40000000 < 50000000000000 → ps.length < k →
      ∃ bx', roundsA (evCA E cf m b15_1) k (st15r rows names out j bx) = if (ps.all fun p => siRowOk r0.N.length p.1.2 p.2) = true then some (.exit 2, { nt := 97, tm := [(5, .sv (.str (out ++ (ps.map fun p => siLine p.2).flatten)))], lz := none, bx := bx', df := [] }) else some (.ret, bad15 bx') := by
  intro ps
  induction ps with
  | nil =>
    intro pre pren out j bx k hsp hsn hj hjn _ _ hk
    obtain ⟨k, rfl⟩ : ∃ k', k = k' + 1 := ⟨k - 1, by omega⟩
    have hlt : ¬ (j < rows.length) := by rw [hsp, hj]; simp
    refine ⟨bx, ?_⟩
    simp only [List.all_nil, if_true, List.map_nil, List.flatten_nil, List.append_nil]
    refine roundsA_out ?_ (by simp)
    simp [st15r, b15_1, hlt]
  | cons p ps ih =>
    intro pre pren out j bx k hsp hsn hj hjn hp ho hk
    obtain ⟨k, rfl⟩ : ∃ k', k = k' + 1 := ⟨k - 1, by omega⟩
    simp only [List.length_cons] at ho hk
    have hlt : j < rows.length := by rw [hsp, hj]; simp
    have hln : j < names.length := by rw [hsn, hjn]; simp
    have hc : ∀ h : j < rows.length, rows[j]'h = .agg [.str p.2.name, .sl (u64s p.2.N), .sl (strs p.2.S)] := by subst hj; subst hsp; intro h; simp [RowD.sv]
    have hcn : ∀ h : j < names.length, names[j]'h = .agg [.str p.1.1, .str p.1.2] := by subst hjn; subst hsn; intro h; simp
    obtain ⟨g1, g2, g3⟩ := hp p (by simp)
    cases hb : siRowOk r0.N.length p.1.2 p.2 with
    | false =>
      refine ⟨bx ++ [rowBox p.2], ?_⟩
      rw [if_neg (by simp [hb])]
      exact roundsA_out (step15r_bad E cf m rows names out j hlt h0 hln p.2 r0 p.1.1 p.1.2 hc hc0 hcn bx hb) (by simp)
    | true =>
      have hnm : p.2.name = p.1.2 := by
        unfold siRowOk at hb
        simp only [Bool.and_eq_true, decide_eq_true_eq] at hb
        exact hb.1
      have hll := siLine_len g3
      rw [hnm] at hll
      rw [roundsA_step (step15r_ok E cf m h46 h45 rows names (by omega) out j hlt h0 hln p.2 r0 p.1.1 p.1.2 g1 hc hc0 hcn bx hb (by omega) g3 (by omega) (by omega))]
      obtain ⟨bx', he⟩ := ih (pre ++ [p.2.sv]) (pren ++ [.agg [.str p.1.1, .str p.1.2]]) (out ++ siLine p.2) (j + 1) (bx ++ [rowBox p.2]) k (by rw [hsp]; simp) (by rw [hsn]; simp) (by simp [hj]) (by simp [hjn]) (fun q hq => hp q (by simp [hq])) (by simp only [List.length_append]; omega) (by omega)
      refine ⟨bx', ?_⟩
      rw [he]
      simp only [List.all_cons, hb, Bool.true_and, List.map_cons, List.flatten_cons, List.append_assoc]

def siHead (c : Nat) : List UInt8 := List.replicate 20 32 ++ (((List.range' 0 c).map siCpu).flatten ++ [10])

def siCols (l : List RowD) : Nat := match l with | r :: _ => r.N.length | [] => 0

def siOk (l : List RowD) : Bool := decide (l.length = 10) && (siNm.zip l).all fun p => siRowOk (siCols l) p.1.2 p.2

def siText (l : List RowD) : List UInt8 := siHead (siCols l) ++ (l.map siLine).flatten

def S15 (F : List SV → Option AV) : Prop := ∀ l : List RowD, l.length < 100000000 → (∀ r ∈ l, r.N.length ≤ 1000000 ∧ ∀ n ∈ r.N, n < 18446744073709551616) →
  F [.sl (rowsSV l)] = some (.sv (.tup (if siOk l = true then [.str (siText l), .int .i64 1] else [.str [], .int .i64 2])))

set_option maxHeartbeats 4000000 in
theorem ev15 (E : Env) (h : E.code 21 = some c15) (h43 : Has E 56 S43) (h44 : E.pure 57 = some F44) (h45 : E.pure 58 = some F45) (h46 : Has E 59 S46) : S15 (autoF E 21) := by
  intro l hl hr
  have hrl : (rowsSV l).length = l.length := by simp [rowsSV]
  obtain ⟨FN, hpN, hFN⟩ := id h43
  have hnl : siNames.length = 10 := rfl
  by_cases h10 : l.length = 10
  rotate_left
  · have e : ((l.length : Int) == 10) = false := by simpa using (by omega : ¬ (l.length : Int) = 10)
    have e2 : ¬ (l.length : Int) = 10 := by omega
    have hno : siOk l = false := by unfold siOk; rw [decide_eq_false h10]; rfl
    rw [hno, if_neg (by simp)]
    refine autoA_sv (n := 1) ?_ rfl
    unfold evPA
    simp only [h]
    unfold S43 at hFN
    generalize siNames = nms at *
    generalize rowsSV l = R at *
    simp [c15, hpN, hFN, hrl, hnl, e, e2, h10]
  match l, h10 with
  | r0 :: rest, h10 =>
    have hz : ((siNm.zip (r0 :: rest)).map fun p => p.2.sv) = rowsSV (r0 :: rest) := by
      unfold rowsSV
      rw [show (fun p : (List UInt8 × List UInt8) × RowD => p.2.sv) = RowD.sv ∘ Prod.snd from rfl, ← List.map_map, List.map_snd_zip (by simp [siNm]; simp at h10; omega)]
    have hzn : ((siNm.zip (r0 :: rest)).map fun p => SV.agg [.str p.1.1, .str p.1.2]) = siNames := by
      unfold siNames
      rw [show (fun p : (List UInt8 × List UInt8) × RowD => SV.agg [.str p.1.1, .str p.1.2]) = (fun p : List UInt8 × List UInt8 => SV.agg [.str p.1, .str p.2]) ∘ Prod.fst from rfl, ← List.map_map, List.map_fst_zip (by simp [siNm]; simp at h10; omega)]
    have hz0 : ∀ h : 0 < (rowsSV (r0 :: rest)).length, (rowsSV (r0 :: rest))[0]'h = .agg [.str r0.name, .sl (u64s r0.N), .sl (strs r0.S)] := fun _ => rfl
    have hb0 := hr r0 (by simp)
    have hzl : (siNm.zip (r0 :: rest)).length = 10 := by rw [List.length_zip]; rw [h10]; rfl
    have hsl : ((siNm.zip (r0 :: rest)).map fun p => siLine p.2) = (r0 :: rest).map siLine := by
      rw [show (fun p : (List UInt8 × List UInt8) × RowD => siLine p.2) = siLine ∘ Prod.snd from rfl, ← List.map_map, List.map_snd_zip (by simp [siNm]; simp at h10; omega)]
    have hhl : (((List.range' 0 r0.N.length).map siCpu).flatten).length ≤ r0.N.length * 40 := by
      have key : ∀ (c i : Nat), i + c ≤ 1000000 → (((List.range' i c).map siCpu).flatten).length ≤ c * 40 := by
        intro c
        induction c with
        | zero => intro i _; simp
        | succ c ih =>
          intro i hi
          have h1 := ih (i + 1) (by omega)
          have h2 := decS_len20 (n := i) (by omega)
          have h3 : (siCpu i).length ≤ 40 := by unfold siCpu leftS; simp; omega
          simp only [List.range'_succ, List.map_cons, List.flatten_cons, List.length_append] at *
          omega
      exact key _ 0 (by omega)
    have hh := loop15h E (evF E 1000100) 1000100 h44 h45 (.sl (rowsSV (r0 :: rest))) (.sl siNames) r0.N.length (by omega) r0.N.length 0 (List.replicate 20 32) 1000100 (by omega) (by simp) (by omega)
    obtain ⟨bx', he⟩ := loop15r E (evF E 1000100) 1000100 h46 h45 (rowsSV (r0 :: rest)) siNames (by rw [hrl, h10]; omega) (by rw [hrl, h10]; omega) r0 hz0 (by omega) (siNm.zip (r0 :: rest)) [] [] (siHead r0.N.length) 0 [] 1000100 (by rw [List.nil_append]; exact hz.symm) (by rw [List.nil_append]; exact hzn.symm) rfl rfl (fun p hp => by
      have h1 := List.of_mem_zip hp
      refine ⟨?_, (hr p.2 h1.2).1, (hr p.2 h1.2).2⟩
      have h2 : ∀ q ∈ siNm, q.2.length < 100 := by decide
      exact h2 p.1 h1.1) (by rw [hzl]; unfold siHead; simp only [List.length_append, List.length_replicate, List.length_cons, List.length_nil]; omega) (by rw [hzl]; omega)
    rw [hsl] at he
    have hok : siOk (r0 :: rest) = (siNm.zip (r0 :: rest)).all fun p => siRowOk r0.N.length p.1.2 p.2 := by
      unfold siOk siCols
      rw [decide_eq_true h10, Bool.true_and]
    have ht : siText (r0 :: rest) = siHead r0.N.length ++ ((r0 :: rest).map siLine).flatten := rfl
    rw [hok, ht]
    have a1 : binSV .add (.str (List.replicate 20 32 ++ ((List.range' 0 r0.N.length).map siCpu).flatten)) (.str [10]) = some (.str (siHead r0.N.length)) := by
      rw [binAdd (by simp only [List.length_append, List.length_replicate, List.length_cons, List.length_nil]; omega)]
      unfold siHead
      rw [List.append_assoc]
    have l0 : (u64s r0.N).length = r0.N.length := by simp [u64s]
    refine autoA_sv (n := 1000100) ?_ (by split <;> rfl)
    unfold evPA
    simp only [h]
    have h10i : ((rowsSV (r0 :: rest)).length : Int) = 10 := by rw [hrl, h10]; rfl
    have h10n : (rowsSV (r0 :: rest)).length = 10 := by rw [hrl, h10]
    unfold S43 at hFN
    simp only [st15h, st15r, Int.ofNat_zero, Int.natCast_zero] at hh he
    generalize siHead r0.N.length ++ ((r0 :: rest).map siLine).flatten = o3 at *
    generalize siHead r0.N.length = o2 at *
    generalize hw : List.replicate 20 32 ++ ((List.range' 0 r0.N.length).map siCpu).flatten = o1 at *
    generalize ((siNm.zip (r0 :: rest)).all fun p => siRowOk r0.N.length p.1.2 p.2) = bb at *
    generalize siNames = nms at *
    generalize rowsSV (r0 :: rest) = R at *
    simp only [h10n, show ((10 : Nat) : Int) = 10 from rfl] at he hh
    have h0R : 0 < R.length := by omega
    have p3 : ∀ x y, binSV .neq (.int .i64 x) (.int .i64 y) = some (.bool (x != y)) := fun x y => by simp [binSV]
    simp only [List.replicate] at hh
    cases bb with
    | true =>
      simp only [if_true] at he
      simp [-binSV, c15, hpN, hFN, p3, h10i, h10n, hnl, hz0, h0R, l0, hh, a1, he]
    | false =>
      simp only [Bool.false_eq_true, if_false, bad15] at he
      simp [-binSV, c15, hpN, hFN, p3, h10i, h10n, hnl, hz0, h0R, l0, hh, a1, he]

end Go.Ev

set_option linter.unusedSimpArgs false
set_option linter.unusedVariables false
namespace Go.Ev
open Go.Proofs

def endC (f : List UInt8) : Bool := decide (1 ≤ f.length) && (f.drop (f.length - 1) == [58])

/-- A table of a label, ended by a colon, and numbers. -/
def tabC : List (List UInt8) → Option (List RowD)
  | [] => some []
  | s :: l => match fieldsL s with
    | [] => none
    | f :: fs => if endC f = true then match decsV fs with
      | some n => match tabC l with
        | some rs => some (⟨f.take (f.length - 1), n, []⟩ :: rs)
        | none => none
      | none => none
      else none

def st29c (xs acc : List SV) (i : Nat) : SA := { nt := 57, tm := [(14, .sv (.int .i64 i)), (13, .sv (.int .i64 xs.length)), (12, .sv (.sl xs)), (6, accA 53 acc), (1, .sv (.str [58]))], lz := none, bx := [], df := [] }

def bad29 : SA := { nt := 57, tm := [(5, .sv (.bool false)), (4, .sv .nilS)], lz := none, bx := [], df := [] }

set_option maxHeartbeats 8000000 in
theorem loop29c (E : Env) (cf : CallF) (hP : E.pure 79 = some F52) (hP2 : E.pure 80 = some F76) (hP3 : E.pure 106 = some F77) (xs : List SV) (hs : xs.length < 1000000000000) (m : Nat) :
    ∀ (rest : List (List UInt8)) (pre acc : List SV) (i : Nat) (k : Nat), xs = pre ++ strs rest → i = pre.length → (∀ s ∈ rest, s.length < 100000000000) → acc.length = i → rest.length < k →
      roundsA (evCA E cf m b29_0) k (st29c xs acc i) =
        match tabC rest with
        | some ms => some (.exit 0, { nt := 57, tm := [(6, accA 53 (acc ++ rowsSV ms))], lz := none, bx := [], df := [] })
        | none => some (.ret, bad29) := by
  intro rest
  induction rest with
  | nil =>
    intro pre acc i k hsp hi _ _ hk
    obtain ⟨k, rfl⟩ : ∃ k', k = k' + 1 := ⟨k - 1, by omega⟩
    have hlt : ¬ (i < xs.length) := by rw [hsp, hi]; simp [strs]
    simp only [tabC, rowsSV, List.map_nil, List.append_nil]
    refine roundsA_out ?_ (by simp)
    cases acc with
    | nil => simp [st29c, b29_0, hlt, accA]
    | cons y ys => simp [st29c, b29_0, hlt, accA]
  | cons c rest ih =>
    intro pre acc i k hsp hi hr hal hk
    obtain ⟨k, rfl⟩ : ∃ k', k = k' + 1 := ⟨k - 1, by omega⟩
    have hlt : i < xs.length := by rw [hsp, hi]; simp [strs]
    have hc : ∀ h : i < xs.length, xs[i]'h = .str c := by subst hi; subst hsp; simp [strs]
    have hw2 : IntKind.i64.wrap ((i : Int) + 1) = ((i + 1 : Nat) : Int) := by rw [IntKind.wrap_i64]; omega
    have hcb := hr c (by simp)
    have hF := F52_eq c (by omega)
    obtain ⟨_, hsh1, hsh2⟩ := fieldsV_shape c
    have hl1 : (acc.length + 1) * 64 ≤ 140737488355328 := by omega
    have hl2 : acc.length + 1 ≤ 140737488355328 := by omega
    cases hfl : fieldsL c with
    | nil =>
      have htab : tabC (c :: rest) = none := by simp [tabC, hfl]
      rw [hfl] at hF
      simp only [strs, List.map_nil] at hF
      rw [htab]
      refine roundsA_out ?_ (by simp)
      cases acc with
      | nil => simp [st29c, bad29, b29_0, hlt, hc, hP, hF, accA]
      | cons y ys => simp [st29c, bad29, b29_0, hlt, hc, hP, hF, accA]
    | cons f fs =>
      rw [hfl] at hF hsh1 hsh2
      simp only [List.length_cons] at hsh1
      have hF2 := F77_eq fs (by omega) (fun s hs' => by have := hsh2 s (by simp [hs']); omega)
      have hfl2 := hsh2 f (by simp)
      have hfb : f.length < 9223372036854775807 := by omega
      have hE : F76 [.str f, .str [58]] = some (.sv (.bool (endC f))) := onlyIf_pos hfb
      simp only [strs, List.map_cons] at hF hF2
      have e0 : ((fs.length : Int) + 1 == 0) = false := by rw [Bool.eq_false_iff]; simp; omega
      have e0b : ¬ ((fs.length : Int) + 1 = 0) := by omega
      have e1 : (0 : Int) < (fs.length : Int) + 1 := by omega
      have e2 : (0 : Int) ≤ (fs.length : Int) + 1 := by omega
      have e4 : (1 : Int) ≤ (fs.length : Int) + 1 := by omega
      have ht : List.take fs.length (fs.map SV.str) = fs.map SV.str := List.take_of_length_le (by simp)
      have hu : (∀ x : SV, x ∈ fs.map SV.str → x.cells.length = 1) = True := eq_true (fun x hx => by
        obtain ⟨y, _, rfl⟩ := List.mem_map.1 hx
        rfl)
      simp only [SV.cells] at hu
      cases hen : endC f with
      | false =>
        have htab : tabC (c :: rest) = none := by simp [tabC, hfl, hen]
        rw [hen] at hE
        rw [htab]
        refine roundsA_out ?_ (by simp)
        cases acc with
        | nil => simp [st29c, bad29, b29_0, hlt, hc, hP, hF, hP2, hE, e0, e0b, e1, accA]
        | cons y ys => simp [st29c, bad29, b29_0, hlt, hc, hP, hF, hP2, hE, e0, e0b, e1, accA]
      | true =>
        rw [hen] at hE
        cases hd : decsV fs with
        | none =>
          have htab : tabC (c :: rest) = none := by simp [tabC, hfl, hen, hd]
          rw [hd] at hF2
          rw [htab]
          refine roundsA_out ?_ (by simp)
          cases acc with
          | nil => simp [st29c, bad29, b29_0, hlt, hc, hP, hF, hP2, hP3, hF2, hE, e0, e0b, e1, e2, e4, ht, hu, accA]
          | cons y ys => simp [st29c, bad29, b29_0, hlt, hc, hP, hF, hP2, hP3, hF2, hE, e0, e0b, e1, e2, e4, ht, hu, accA]
        | some n =>
          have htab : tabC (c :: rest) = (match tabC rest with | some rs => some (⟨f.take (f.length - 1), n, []⟩ :: rs) | none => none) := by simp [tabC, hfl, hen, hd]
          rw [hd] at hF2
          have hf1 : 1 ≤ f.length := by
            unfold endC at hen
            rw [Bool.and_eq_true, decide_eq_true_eq] at hen
            exact hen.1
          have hwf : IntKind.i64.wrap ((f.length : Int) - 1) = ((f.length - 1 : Nat) : Int) := by rw [IntKind.wrap_i64]; omega
          have e6 : (((f.length - 1 : Nat) : Int)) ≤ (f.length : Int) := by omega
          have key : evCA E cf m b29_0 (st29c xs acc i) = some (.normal, st29c xs (acc ++ [RowD.sv ⟨f.take (f.length - 1), n, []⟩]) (i + 1)) := by
            cases acc with
            | nil => simp [st29c, b29_0, hlt, hc, hw2, hP, hF, hP2, hP3, hF2, hE, e0, e0b, e1, e2, e4, ht, hu, accA, RowD.sv, hwf, e6, strs]
            | cons y ys =>
              simp only [List.length_cons] at hl1 hl2
              simp [st29c, b29_0, hlt, hc, hw2, hP, hF, hP2, hP3, hF2, hE, e0, e0b, e1, e2, e4, ht, hu, accA, RowD.sv, hwf, e6, hl1, hl2, strs]
          rw [roundsA_step key, ih (pre ++ [.str c]) (acc ++ [RowD.sv ⟨f.take (f.length - 1), n, []⟩]) (i + 1) k (by rw [hsp]; simp [strs]) (by simp [hi]) (fun n hn => hr n (by simp [hn])) (by simp [hal]) (by simp at hk; omega), htab]
          cases tabC rest with
          | none => rfl
          | some ms => simp [rowsSV]

end Go.Ev

set_option linter.unusedSimpArgs false
set_option linter.unusedVariables false
namespace Go.Ev
open Go.Proofs

def S35o (F : List SV → Option AV) : Prop := ∀ (nm : List UInt8) (u : Int), F [.str nm, .int .u64 u] = some (.sv (nodeV nm 3 false 0 u 0 [] []))

theorem ev35o (E : Env) (h : E.code 48 = some c35) : S35o (autoF E 48) := by
  intro nm u
  refine autoA_sv (n := 1) ?_ rfl
  unfold evPA
  simp only [h]
  simp [c35, nodeV]

def st51 (nm : List UInt8) (xs acc : List SV) (i : Nat) (z : Box) : SA := { nt := 23, tm := [(10, .sv (.int .i64 i)), (9, .sv (.int .i64 xs.length)), (8, .sv (.sl xs)), (5, accA 42 acc), (4, .ptr 0 0), (0, .sv (.str nm))], lz := none, bx := [z], df := [] }

set_option maxHeartbeats 4000000 in
theorem step51 (E : Env) (cf : CallF) (m : Nat) (h35 : Has E 48 S35o) (nm : List UInt8) (xs acc : List SV) (ha : acc.length < 1000000000) (i : Nat) (hlt : i < xs.length) (hxl : xs.length < 100000000) (n : Nat) (hc : ∀ h : i < xs.length, xs[i]'h = .int .u64 (n : Int)) (z : Box) :
    evCA E cf m b51_0 (st51 nm xs acc i z) = some (.normal, st51 nm xs (acc ++ [uN n]) (i + 1) z) := by
  obtain ⟨G, hG, hg⟩ := h35
  have hgx := hg [] (n : Int)
  have hw : IntKind.i64.wrap ((i : Int) + 1) = ((i + 1 : Nat) : Int) := by rw [IntKind.wrap_i64]; omega
  have hl1 : (acc.length + 1) * 96 ≤ 140737488355328 := by omega
  have hl2 : acc.length + 1 ≤ 140737488355328 := by omega
  unfold uN nodeV at *
  cases acc with
  | nil => simp [st51, b51_0, hlt, hc, hG, hgx, hw, accA]
  | cons y ys =>
    simp only [List.length_cons] at hl1 hl2
    simp [st51, b51_0, hlt, hc, hG, hgx, hw, accA, hl1, hl2]

theorem loop51 (E : Env) (cf : CallF) (m : Nat) (h35 : Has E 48 S35o) (nm : List UInt8) (xs : List SV) (hxl : xs.length < 100000000) (z : Box) :
    ∀ (rest : List Nat) (pre acc : List SV) (i : Nat) (k : Nat), xs = pre ++ u64s rest → i = pre.length → acc.length = i → rest.length < k →
      roundsA (evCA E cf m b51_0) k (st51 nm xs acc i z) = some (.exit 0, { nt := 23, tm := [(5, accA 42 (acc ++ rest.map uN)), (4, .ptr 0 0), (0, .sv (.str nm))], lz := none, bx := [z], df := [] }) := by
  intro rest
  induction rest with
  | nil =>
    intro pre acc i k hsp hi ha hk
    obtain ⟨k, rfl⟩ : ∃ k', k = k' + 1 := ⟨k - 1, by omega⟩
    have hlt : ¬ (i < xs.length) := by rw [hsp, hi]; simp [u64s]
    refine roundsA_out ?_ (by simp)
    simp only [List.map_nil, List.append_nil]
    cases acc with
    | nil => simp [st51, b51_0, hlt, accA]
    | cons y ys => simp [st51, b51_0, hlt, accA]
  | cons n rest ih =>
    intro pre acc i k hsp hi ha hk
    obtain ⟨k, rfl⟩ : ∃ k', k = k' + 1 := ⟨k - 1, by omega⟩
    have hlt : i < xs.length := by rw [hsp, hi]; simp [u64s]
    have hc : ∀ h : i < xs.length, xs[i]'h = .int .u64 (n : Int) := by subst hi; subst hsp; simp [u64s]
    rw [roundsA_step (step51 E cf m h35 nm xs acc (by omega) i hlt hxl n hc z)]
    rw [ih (pre ++ [.int .u64 (n : Int)]) (acc ++ [uN n]) (i + 1) k (by rw [hsp]; simp [u64s]) (by simp [hi]) (by simp [ha]) (by simp at hk; omega)]
    simp

def S51 (F : List SV → Option AV) : Prop := ∀ (nm : List UInt8) (ns : List Nat), ns.length < 100000000 → F [.str nm, .sl (u64s ns)] = some (.sv (nodeV nm 6 false 0 0 0 [] (ns.map uN)))

theorem ev51 (E : Env) (h : E.code 64 = some c51) (h35 : Has E 48 S35o) (h36 : E.pure 49 = some F36) : S51 (autoF E 64) := by
  intro nm ns hl
  have he := loop51 E (evF E (ns.length + 1)) (ns.length + 1) h35 nm (u64s ns) (by simpa [u64s] using hl) (.live [.sv (.str []), .sv (.int .i64 0), .sv (.bool false), .sv (.int .i64 0), .sv (.int .u64 0), .sv (.flt .f64 0), .sv (.str []), .sv .nilS]) ns [] [] 0 (ns.length + 1) rfl rfl rfl (by omega)
  refine autoA_sv (n := ns.length + 1) ?_ rfl
  unfold evPA
  simp only [h]
  rw [List.nil_append] at he
  simp only [st51, Int.ofNat_zero, Int.natCast_zero] at he
  generalize ns.map uN = ks at he ⊢
  generalize u64s ns = xs at he ⊢
  cases ks with
  | nil => simp only [accA] at he; simp [c51, he, nodeV, h36, F36, accA]
  | cons y ys => simp only [accA] at he; simp [c51, he, nodeV, h36, F36, accA]

end Go.Ev

set_option linter.unusedSimpArgs false
set_option linter.unusedVariables false
namespace Go.Ev
open Go.Proofs

def siKid (p : (List UInt8 × List UInt8) × RowD) : SV := nodeV p.1.1 6 false 0 0 0 [] (p.2.N.map uN)

def st17 (rows names acc : List SV) (j : Nat) (z : Box) (bx : List Box) : SA := { nt := 38, tm := [(19, .sv (.int .i64 j)), (18, .sv (.int .i64 names.length)), (17, .sv (.sl names)), (6, accA 42 acc), (2, .ptr 0 0), (0, .sv (.sl rows))], lz := none, bx := z :: bx, df := [] }

set_option maxHeartbeats 4000000 in
theorem step17 (E : Env) (cf : CallF) (m : Nat) (h51 : Has E 64 S51) (rows names acc : List SV) (ha : acc.length < 1000000) (j : Nat) (hlt : j < rows.length) (hln : j < names.length) (hnl : names.length < 1000000) (p : (List UInt8 × List UInt8) × RowD) (hl : p.2.N.length < 100000000) (hc : ∀ h : j < rows.length, rows[j]'h = .agg [.str p.2.name, .sl (u64s p.2.N), .sl (strs p.2.S)]) (hcn : ∀ h : j < names.length, names[j]'h = .agg [.str p.1.1, .str p.1.2]) (z : Box) (bx : List Box) :
    evCA E cf m b17_0 (st17 rows names acc j z bx) = some (.normal, st17 rows names (acc ++ [siKid p]) (j + 1) z (bx ++ [.live [.sv (.str p.1.1), .sv (.str p.1.2)]])) := by
  obtain ⟨G, hG, hg⟩ := h51
  have hgx := hg p.1.1 p.2.N hl
  have hw : IntKind.i64.wrap ((j : Int) + 1) = ((j + 1 : Nat) : Int) := by rw [IntKind.wrap_i64]; omega
  have hl1 : (acc.length + 1) * 96 ≤ 140737488355328 := by omega
  have hl2 : acc.length + 1 ≤ 140737488355328 := by omega
  unfold siKid nodeV at *
  generalize p.2.N.map uN = ks at *
  generalize u64s p.2.N = xs at *
  generalize strs p.2.S = ys at *
  cases acc with
  | nil => simp [st17, b17_0, hlt, hln, hc, hcn, hG, hgx, hw, accA]
  | cons y ys =>
    simp only [List.length_cons] at hl1 hl2
    simp [st17, b17_0, hlt, hln, hc, hcn, hG, hgx, hw, accA, hl1, hl2]

theorem loop17 (E : Env) (cf : CallF) (m : Nat) (h51 : Has E 64 S51) (rows names : List SV) (hnl : names.length < 1000) (z : Box) :
    ∀ (ps : List ((List UInt8 × List UInt8) × RowD)) (pre pren acc : List SV) (j : Nat) (bx : List Box) (k : Nat), rows = pre ++ ps.map (fun p => p.2.sv) → names = pren ++ ps.map (fun p => SV.agg [.str p.1.1, .str p.1.2]) → j = pre.length → j = pren.length → acc.length = j →
      (∀ p ∈ ps, p.2.N.length ≤ 1000000) → ps.length < k →
      ∃ bx', roundsA (evCA E cf m b17_0) k (st17 rows names acc j z bx) = some (.exit 0, { nt := 38, tm := [(6, accA 42 (acc ++ ps.map siKid)), (2, .ptr 0 0)], lz := none, bx := z :: bx', df := [] }) := by
  intro ps
  induction ps with
  | nil =>
    intro pre pren acc j bx k hsp hsn hj hjn ha _ hk
    obtain ⟨k, rfl⟩ : ∃ k', k = k' + 1 := ⟨k - 1, by omega⟩
    have hlt : ¬ (j < names.length) := by rw [hsn, hjn]; simp
    refine ⟨bx, roundsA_out ?_ (by simp)⟩
    simp only [List.map_nil, List.append_nil]
    cases acc with
    | nil => simp [st17, b17_0, hlt, accA]
    | cons y ys => simp [st17, b17_0, hlt, accA]
  | cons p ps ih =>
    intro pre pren acc j bx k hsp hsn hj hjn ha hp hk
    obtain ⟨k, rfl⟩ : ∃ k', k = k' + 1 := ⟨k - 1, by omega⟩
    simp only [List.length_cons] at hk
    have hlt : j < rows.length := by rw [hsp, hj]; simp
    have hln : j < names.length := by rw [hsn, hjn]; simp
    have hc : ∀ h : j < rows.length, rows[j]'h = .agg [.str p.2.name, .sl (u64s p.2.N), .sl (strs p.2.S)] := by subst hj; subst hsp; intro h; simp [RowD.sv]
    have hcn : ∀ h : j < names.length, names[j]'h = .agg [.str p.1.1, .str p.1.2] := by subst hjn; subst hsn; intro h; simp
    rw [roundsA_step (step17 E cf m h51 rows names acc (by omega) j hlt hln (by omega) p (by have := hp p (by simp); omega) hc hcn z bx)]
    obtain ⟨bx', he⟩ := ih (pre ++ [p.2.sv]) (pren ++ [.agg [.str p.1.1, .str p.1.2]]) (acc ++ [siKid p]) (j + 1) (bx ++ [.live [.sv (.str p.1.1), .sv (.str p.1.2)]]) k (by rw [hsp]; simp) (by rw [hsn]; simp) (by simp [hj]) (by simp [hjn]) (by simp [ha]) (fun q hq => hp q (by simp [hq])) (by omega)
    refine ⟨bx', ?_⟩
    rw [he]
    simp

def S17 (F : List SV → Option AV) : Prop := ∀ l : List RowD, siOk l = true → (∀ r ∈ l, r.N.length ≤ 1000000 ∧ ∀ n ∈ r.N, n < 18446744073709551616) →
  F [.sl (rowsSV l)] = some (.sv (.tup [nodeV [] 8 false 0 0 0 [] ((siNm.zip l).map siKid), .int .i64 1]))

set_option maxHeartbeats 4000000 in
theorem ev17 (E : Env) (h : E.code 23 = some c17) (h15 : Has E 21 S15) (h43 : Has E 56 S43) (h51 : Has E 64 S51) (h33 : E.pure 46 = some F33) : S17 (autoF E 23) := by
  obtain ⟨FP, hpP, hFP⟩ := h15
  obtain ⟨FN, hpN, hFN⟩ := h43
  intro l hok hr
  have h10 : l.length = 10 := by
    unfold siOk at hok
    rw [Bool.and_eq_true, decide_eq_true_eq] at hok
    exact hok.1
  have hp := hFP l (by omega) hr
  rw [if_pos hok] at hp
  have hz : ((siNm.zip l).map fun p => p.2.sv) = rowsSV l := by
    unfold rowsSV
    rw [show (fun p : (List UInt8 × List UInt8) × RowD => p.2.sv) = RowD.sv ∘ Prod.snd from rfl, ← List.map_map, List.map_snd_zip (by simp [siNm]; omega)]
  have hzn : ((siNm.zip l).map fun p => SV.agg [.str p.1.1, .str p.1.2]) = siNames := by
    unfold siNames
    rw [show (fun p : (List UInt8 × List UInt8) × RowD => SV.agg [.str p.1.1, .str p.1.2]) = (fun p : List UInt8 × List UInt8 => SV.agg [.str p.1, .str p.2]) ∘ Prod.fst from rfl, ← List.map_map, List.map_fst_zip (by simp [siNm]; omega)]
  have hnl : siNames.length = 10 := rfl
  have hzl : (siNm.zip l).length = 10 := by rw [List.length_zip, h10]; rfl
  obtain ⟨bx', he⟩ := loop17 E (evF E 100) 100 h51 (rowsSV l) siNames (by omega) (.live [.sv (.str []), .sv (.int .i64 0), .sv (.bool false), .sv (.int .i64 0), .sv (.int .u64 0), .sv (.flt .f64 0), .sv (.str []), .sv .nilS]) (siNm.zip l) [] [] [] 0 [] 100 (by rw [List.nil_append]; exact hz.symm) (by rw [List.nil_append]; exact hzn.symm) rfl rfl rfl (fun p hp => (hr p.2 (List.of_mem_zip hp).2).1) (by omega)
  refine autoA_sv (n := 100) ?_ rfl
  unfold evPA
  simp only [h]
  rw [List.nil_append] at he
  unfold S43 at hFN
  simp only [st17, Int.ofNat_zero, Int.natCast_zero, hnl, show ((10 : Nat) : Int) = 10 from rfl] at he
  generalize (siNm.zip l).map siKid = ks at *
  generalize siText l = o at *
  generalize siNames = nms at *
  generalize rowsSV l = R at *
  cases ks with
  | nil => simp only [accA] at he; simp [c17, hpP, hp, hpN, hFN, hnl, accA, he, h33, F33, nodeV]
  | cons y ys => simp only [accA] at he; simp [c17, hpP, hp, hpN, hFN, hnl, accA, he, h33, F33, nodeV]

end Go.Ev

set_option linter.unusedSimpArgs false
set_option linter.unusedVariables false
namespace Go.Ev
open Go.Proofs

theorem tabC_fit {B : Nat} (hB : B ≤ 1000000) : ∀ {ls : List (List UInt8)} {rs : List RowD}, tabC ls = some rs → (∀ s ∈ ls, s.length ≤ B) → rs.length = ls.length ∧ ∀ r ∈ rs, r.N.length ≤ 1000000 ∧ ∀ n ∈ r.N, n < 18446744073709551616
  | [], rs, h, _ => by simp only [tabC, Option.some.injEq] at h; subst h; simp
  | s :: ls, rs, h, hl => by
    simp only [tabC] at h
    obtain ⟨_, hs1, _⟩ := fieldsV_shape s
    cases hf : fieldsL s with
    | nil => rw [hf] at h; simp at h
    | cons f fs =>
      rw [hf] at h hs1
      simp only at h
      split at h <;> try (simp at h; done)
      cases hd : decsV fs with
      | none => rw [hd] at h; simp at h
      | some ns =>
        rw [hd] at h
        cases ht : tabC ls with
        | none => rw [ht] at h; simp at h
        | some rs' =>
          rw [ht] at h
          simp only [Option.some.injEq] at h
          subst h
          obtain ⟨g1, g2⟩ := decsV_fit hd
          obtain ⟨k1, k2⟩ := tabC_fit hB ht (fun x hx => hl x (by simp [hx]))
          have := hl s (by simp)
          simp only [List.length_cons] at hs1
          refine ⟨by simp [k1], fun r hr => ?_⟩
          rcases List.mem_cons.1 hr with rfl | hr
          · exact ⟨by simp only; omega, g2⟩
          · exact k2 r hr

def S29c (F : List SV → Option AV) : Prop := ∀ l : List (List UInt8), l.length < 1000000 → (∀ s ∈ l, s.length < 1000000) → F [.sl (strs l), .str [58]] = some (.sv (.tup (match tabC l with | some ms => [.sl (rowsSV ms), .bool true] | none => [.sl [], .bool false])))

theorem ev29c (E : Env) (h : E.code 42 = some c29) (hP : E.pure 79 = some F52) (hP2 : E.pure 80 = some F76) (hP3 : E.pure 106 = some F77) : S29c (autoF E 42) := by
  intro l hl hr
  have he := loop29c E (evF E (l.length + 1)) hP hP2 hP3 (strs l) (by rw [strs_length]; omega) (l.length + 1) l [] [] 0 (l.length + 1) rfl rfl (fun s hs => by have := hr s hs; omega) rfl (by omega)
  refine autoA_sv (n := l.length + 1) ?_ (by split <;> rfl)
  unfold evPA
  simp only [h]
  simp only [st29c, show accA 53 [] = .sv .nilS from rfl, Int.ofNat_zero, Int.natCast_zero, List.nil_append, bad29] at he
  generalize strs l = xs at *
  cases hv : tabC l with
  | none => rw [hv] at he; simp only at he; simp [c29, he]
  | some ms =>
    rw [hv] at he
    simp only at he ⊢
    generalize rowsSV ms = R at *
    cases R with
    | nil => simp only [accA] at he; simp [c29, he]
    | cons x xs => simp only [accA] at he; simp [c29, he]

/-- What the reference reads. -/
noncomputable def siRead (s : List UInt8) : Option (List RowD) := open Classical in
  match linesL s with
  | [] => none
  | _ :: ls => match tabC ls with
    | some rs => if s.all plainC = true ∧ siOk rs = true ∧ siText rs = s then some rs else none
    | none => none

theorem ev31g (E : Env) (h : E.code 44 = some c31) (h78 : E.pure 78 = some F78) (P : Nat) (F : List SV → Option AV) (hP : E.pure P = some F) (text : List UInt8) (hs : text.length < 9223372036854775807) (rows : List SV) (ok : Bool) (out : List UInt8) (told : Int)
    (hF : F [.sl rows] = some (.sv (.tup [.str out, .int .i64 told]))) (n : Nat) :
    evP E n 44 [.str text, .sl rows, .bool ok, .fn P [] [], .bool false] = some (.sv (.tup (if ok = true ∧ text.all plainC = true ∧ told = 1 ∧ out = text then [.sl rows, .bool true, .int .i64 1] else [.sl [], .bool false, .int .i64 2]))) := by
  unfold evP
  simp only [h]
  have hF78 := F78_eq text hs
  cases ok with
  | false => simp [c31, List.replicate]
  | true =>
    cases hp : text.all plainC with
    | false => rw [hp] at hF78; simp [c31, List.replicate, h78, hF78]
    | true =>
      rw [hp] at hF78
      by_cases h1 : told = 1
      · subst h1
        by_cases h2 : out = text
        · subst h2
          simp [c31, List.replicate, h78, hF78, hP, hF]
        · have h2b : (out != text) = true := by simpa using h2
          have h2c : (out == text) = false := by simpa using h2
          simp [c31, List.replicate, h78, hF78, hP, hF, h2, h2b, h2c]
      · have h1b : (told != 1) = true := by simpa using h1
        simp [c31, List.replicate, h78, hF78, hP, hF, h1, h1b]

def S31o (F : List SV → Option AV) : Prop := ∀ (s : List UInt8) (l : List RowD) (ok : Bool), s.length < 1000000000 → l.length < 100000000 → (∀ r ∈ l, r.N.length ≤ 1000000 ∧ ∀ n ∈ r.N, n < 18446744073709551616) →
  F [.str s, .sl (rowsSV l), .bool ok, .fn 21 [] [], .bool false] = some (.sv (.tup (if ok = true ∧ s.all plainC = true ∧ siOk l = true ∧ siText l = s then [.sl (rowsSV l), .bool true, .int .i64 1] else [.sl [], .bool false, .int .i64 2])))

theorem ev31o (E : Env) (h : E.code 44 = some c31) (h78 : E.pure 78 = some F78) (h15 : Has E 21 S15) : S31o (autoF E 44) := by
  obtain ⟨F, hp, hF⟩ := h15
  intro s l ok hs hl hr
  have hFl := hF l hl hr
  refine autoF_sv (n := 1) ?_ (by split <;> rfl)
  cases hb : siOk l with
  | true =>
    rw [if_pos hb] at hFl
    rw [ev31g E h h78 21 F hp s (by omega) (rowsSV l) ok (siText l) 1 hFl 1]
    simp
  | false =>
    rw [if_neg (by simp [hb])] at hFl
    rw [ev31g E h h78 21 F hp s (by omega) (rowsSV l) ok [] 2 hFl 1]
    simp

def S14 (F : List SV → Option AV) : Prop := ∀ s : List UInt8, s.length ≤ 40000 → match siRead s with
  | some rs => F [.str s] = some (.sv (.tup [.sl (rowsSV rs), .bool true, .int .i64 1])) ∧ siOk rs = true ∧ siText rs = s ∧ ∀ r ∈ rs, r.N.length ≤ 1000000 ∧ ∀ n ∈ r.N, n < 18446744073709551616
  | none => ∃ l b, F [.str s] = some (.sv (.tup [.sl l, .bool b, .int .i64 2]))

set_option maxHeartbeats 4000000 in
theorem ev14 (E : Env) (h : E.code 20 = some c14) (h28 : E.pure 41 = some F28) (h29 : Has E 42 S29c) (h31 : Has E 44 S31o) : S14 (autoF E 20) := by
  obtain ⟨G, hG, hg⟩ := h29
  obtain ⟨M, hM, hm⟩ := h31
  intro s hs
  have hF28 := F28_eq s (by omega)
  obtain ⟨_, k1, k2⟩ := linesV_shape s
  unfold siRead
  cases hls : linesL s with
  | nil =>
    rw [hls] at hF28
    simp only [strs, List.map_nil] at hF28
    refine ⟨[], false, ?_⟩
    refine autoA_sv (n := 1) ?_ rfl
    unfold evPA
    simp only [h]
    simp [c14, h28, hF28]
  | cons x ls =>
    rw [hls] at hF28 k1 k2
    simp only [List.length_cons] at k1
    have hg1 := hg ls (by omega) (fun y hy => by have := k2 y (by simp [hy]); omega)
    have hu : (∀ x : SV, x ∈ strs ls → x.cells.length = 1) = True := eq_true (fun x hx => by
      obtain ⟨y, _, rfl⟩ := List.mem_map.1 hx
      rfl)
    simp only [SV.cells] at hu
    have hln : (strs ls).length = ls.length := by simp [strs]
    have ht : List.take ls.length (strs ls) = strs ls := List.take_of_length_le (by omega)
    have e1 : ¬ ((ls.length : Int) + 1 < 1) := by omega
    have e2 : (0 : Int) ≤ (ls.length : Int) + 1 := by omega
    have e4 : (1 : Int) ≤ (ls.length : Int) + 1 := by omega
    simp only [strs, List.map_cons] at hF28
    rw [show ls.map SV.str = strs ls from rfl] at hF28
    cases ht2 : tabC ls with
    | none =>
      simp only [ht2] at hg1
      have hm1 := hm s [] false (by omega) (by simp) (by simp)
      rw [if_neg (by simp)] at hm1
      simp only [rowsSV, List.map_nil] at hm1
      simp only [ht2]
      refine ⟨[], false, ?_⟩
      refine autoA_sv (n := 1) ?_ rfl
      unfold evPA
      simp only [h]
      generalize strs ls = xs at *
      simp [c14, h28, hF28, hln, hu, ht, e1, e2, e4, hG, hg1, hM, hm1]
    | some rs =>
      simp only [ht2] at hg1
      obtain ⟨f1, f2⟩ := tabC_fit (B := 40000) (by omega) ht2 (fun y hy => by have := k2 y (by simp [hy]); omega)
      have hm1 := hm s rs true (by omega) (by omega) f2
      simp only [true_and] at hm1
      simp only [ht2]
      by_cases hc : s.all plainC = true ∧ siOk rs = true ∧ siText rs = s
      · rw [if_pos hc] at hm1 ⊢
        refine ⟨?_, hc.2.1, hc.2.2, f2⟩
        refine autoA_sv (n := 1) ?_ rfl
        unfold evPA
        simp only [h]
        generalize rowsSV rs = R at *
        generalize strs ls = xs at *
        simp [c14, h28, hF28, hln, hu, ht, e1, e2, e4, hG, hg1, hM, hm1]
      · rw [if_neg hc] at hm1 ⊢
        refine ⟨[], false, ?_⟩
        refine autoA_sv (n := 1) ?_ rfl
        unfold evPA
        simp only [h]
        generalize rowsSV rs = R at *
        generalize strs ls = xs at *
        simp [c14, h28, hF28, hln, hu, ht, e1, e2, e4, hG, hg1, hM, hm1]

end Go.Ev

set_option linter.unusedSimpArgs false
set_option linter.unusedVariables false
namespace Go.Ev
open Go.Proofs

/-- A made row, of which the first cells are written. -/
def siRow (vs : List Nat) (z : Nat) : List Cell := (vs.map fun (n : Nat) => Cell.sv (.int .u64 (n : Int))) ++ List.replicate z (Cell.sv (.int .u64 0))

theorem siRow_len (vs : List Nat) (z : Nat) : (siRow vs z).length = vs.length + z := by simp [siRow]

theorem siRow_set (vs : List Nat) (v z : Nat) : (siRow vs (z + 1)).set vs.length (.sv (.int .u64 (v : Int))) = siRow (vs ++ [v]) z := by
  unfold siRow
  rw [List.set_append_right _ _ (by simp)]
  simp [List.replicate_succ]

theorem siRow_new (n : Nat) : ((List.replicate n [SV.int .u64 0]).flatten.map Cell.sv) = siRow [] n := by
  unfold siRow
  induction n with
  | zero => rfl
  | succ n ih =>
    simp only [List.replicate_succ, List.flatten_cons, List.map_append, ih]
    rfl

theorem siRow_plain (vs : List Nat) : (siRow vs 0).map Cell.plain = u64s vs := by
  unfold siRow u64s
  simp only [List.replicate_zero, List.append_nil, List.map_map]
  rfl

def stO0 (ds : List SV) (i : Nat) (c : Nat → Cell) (z0 z2 : Box) (zs : List Box) (vs : List Nat) (z : Nat) : SA := { nt := 357, tm := [(68, .sv (.int .i64 i)), (67, .sv (.int .i64 ds.length)), (66, .sv (.sl ds)), (5, .ptr 2 0), (4, .ptr 1 0), (2, .ptr 0 0)], lz := none, bx := z0 :: .live [.lrw (zs.length + 1 + 1 + 1) ds.length 1, c 1, c 2, c 3, c 4, c 5, c 6, c 7, c 8, c 9] :: z2 :: (zs ++ [.live (siRow vs z)]), df := [], lk := true }

set_option maxHeartbeats 4000000 in
theorem stepO0 (E : Env) (cf : CallF) (m : Nat) (FP : List SV → Option AV) (hp : E.pure 120 = some FP) (ds : List SV) (i : Nat) (hlt : i < ds.length) (hl : ds.length < 1000000) (d : List UInt8) (v : Nat) (hc : ∀ h : i < ds.length, ds[i]'h = .str d) (hF : FP [.str d, .int .i64 10, .int .i64 64] = some (.sv (.tup [.int .u64 (v : Int), .nilI]))) (c : Nat → Cell) (z0 z2 : Box) (zs : List Box) (vs : List Nat) (hv : vs.length = i) (z : Nat) :
    evCA E cf m b100_9 (stO0 ds i c z0 z2 zs vs (z + 1)) = some (.normal, stO0 ds (i + 1) c z0 z2 zs (vs ++ [v]) z) := by
  have hw : IntKind.i64.wrap ((i : Int) + 1) = ((i + 1 : Nat) : Int) := by rw [IntKind.wrap_i64]; omega
  have hs := siRow_set vs v z
  rw [hv] at hs
  have hn : i < (siRow vs (z + 1)).length := by rw [siRow_len, hv]; omega
  simp [stO0, b100_9, hlt, hc, hw, hp, hF, hs, hn]

theorem loopO0 (E : Env) (cf : CallF) (m : Nat) (FP : List SV → Option AV) (hp : E.pure 120 = some FP) (hF : ∀ n : Nat, n < 18446744073709551616 → FP [.str (decS n), .int .i64 10, .int .i64 64] = some (.sv (.tup [.int .u64 (n : Int), .nilI]))) (ns : List Nat) (hl : ns.length < 1000000) (hn : ∀ n ∈ ns, n < 18446744073709551616) (c : Nat → Cell) (z0 z2 : Box) (zs : List Box) :
    ∀ (rest vs : List Nat) (kk : Nat), ns = vs ++ rest → rest.length < kk →
      roundsA (evCA E cf m b100_9) kk (stO0 (strs (ns.map decS)) vs.length c z0 z2 zs vs rest.length) = some (.exit 3, { nt := 357, tm := [(5, .ptr 2 0), (4, .ptr 1 0), (2, .ptr 0 0)], lz := none, bx := z0 :: .live [.lrw (zs.length + 1 + 1 + 1) ns.length 1, c 1, c 2, c 3, c 4, c 5, c 6, c 7, c 8, c 9] :: z2 :: (zs ++ [.live (siRow ns 0)]), df := [], lk := true }) := by
  have hlen : (strs (ns.map decS)).length = ns.length := by simp [strs]
  intro rest
  induction rest with
  | nil =>
    intro vs kk hsp hk
    obtain ⟨kk, rfl⟩ : ∃ k', kk = k' + 1 := ⟨kk - 1, by omega⟩
    simp only [List.append_nil] at hsp
    subst hsp
    refine roundsA_out ?_ (by simp)
    simp [stO0, b100_9, hlen]
  | cons r rest ih =>
    intro vs kk hsp hk
    obtain ⟨kk, rfl⟩ : ∃ k', kk = k' + 1 := ⟨kk - 1, by omega⟩
    have hlt : vs.length < (strs (ns.map decS)).length := by rw [hlen, hsp]; simp
    have hc : ∀ h : vs.length < (strs (ns.map decS)).length, (strs (ns.map decS))[vs.length]'h = .str (decS r) := by subst hsp; intro h; simp [strs]
    rw [List.length_cons, roundsA_step (stepO0 E cf m FP hp _ vs.length hlt (by omega) (decS r) r hc (hF r (hn r (by rw [hsp]; simp))) c z0 z2 zs vs rfl rest.length)]
    have := ih (vs ++ [r]) kk (by rw [hsp]; simp) (by simp at hk; omega)
    rw [List.length_append, List.length_singleton] at this
    exact this

def stO1 (ds : List SV) (i : Nat) (c : Nat → Cell) (z0 z2 : Box) (zs : List Box) (vs : List Nat) (z : Nat) : SA := { nt := 357, tm := [(97, .sv (.int .i64 i)), (96, .sv (.int .i64 ds.length)), (95, .sv (.sl ds)), (5, .ptr 2 0), (4, .ptr 1 0), (2, .ptr 0 0)], lz := none, bx := z0 :: .live [c 0, .lrw (zs.length + 1 + 1 + 1) ds.length 1, c 2, c 3, c 4, c 5, c 6, c 7, c 8, c 9] :: z2 :: (zs ++ [.live (siRow vs z)]), df := [], lk := true }

set_option maxHeartbeats 4000000 in
theorem stepO1 (E : Env) (cf : CallF) (m : Nat) (FP : List SV → Option AV) (hp : E.pure 120 = some FP) (ds : List SV) (i : Nat) (hlt : i < ds.length) (hl : ds.length < 1000000) (d : List UInt8) (v : Nat) (hc : ∀ h : i < ds.length, ds[i]'h = .str d) (hF : FP [.str d, .int .i64 10, .int .i64 64] = some (.sv (.tup [.int .u64 (v : Int), .nilI]))) (c : Nat → Cell) (z0 z2 : Box) (zs : List Box) (vs : List Nat) (hv : vs.length = i) (z : Nat) :
    evCA E cf m b100_8 (stO1 ds i c z0 z2 zs vs (z + 1)) = some (.normal, stO1 ds (i + 1) c z0 z2 zs (vs ++ [v]) z) := by
  have hw : IntKind.i64.wrap ((i : Int) + 1) = ((i + 1 : Nat) : Int) := by rw [IntKind.wrap_i64]; omega
  have hs := siRow_set vs v z
  rw [hv] at hs
  have hn : i < (siRow vs (z + 1)).length := by rw [siRow_len, hv]; omega
  simp [stO1, b100_8, hlt, hc, hw, hp, hF, hs, hn]

theorem loopO1 (E : Env) (cf : CallF) (m : Nat) (FP : List SV → Option AV) (hp : E.pure 120 = some FP) (hF : ∀ n : Nat, n < 18446744073709551616 → FP [.str (decS n), .int .i64 10, .int .i64 64] = some (.sv (.tup [.int .u64 (n : Int), .nilI]))) (ns : List Nat) (hl : ns.length < 1000000) (hn : ∀ n ∈ ns, n < 18446744073709551616) (c : Nat → Cell) (z0 z2 : Box) (zs : List Box) :
    ∀ (rest vs : List Nat) (kk : Nat), ns = vs ++ rest → rest.length < kk →
      roundsA (evCA E cf m b100_8) kk (stO1 (strs (ns.map decS)) vs.length c z0 z2 zs vs rest.length) = some (.exit 5, { nt := 357, tm := [(5, .ptr 2 0), (4, .ptr 1 0), (2, .ptr 0 0)], lz := none, bx := z0 :: .live [c 0, .lrw (zs.length + 1 + 1 + 1) ns.length 1, c 2, c 3, c 4, c 5, c 6, c 7, c 8, c 9] :: z2 :: (zs ++ [.live (siRow ns 0)]), df := [], lk := true }) := by
  have hlen : (strs (ns.map decS)).length = ns.length := by simp [strs]
  intro rest
  induction rest with
  | nil =>
    intro vs kk hsp hk
    obtain ⟨kk, rfl⟩ : ∃ k', kk = k' + 1 := ⟨kk - 1, by omega⟩
    simp only [List.append_nil] at hsp
    subst hsp
    refine roundsA_out ?_ (by simp)
    simp [stO1, b100_8, hlen]
  | cons r rest ih =>
    intro vs kk hsp hk
    obtain ⟨kk, rfl⟩ : ∃ k', kk = k' + 1 := ⟨kk - 1, by omega⟩
    have hlt : vs.length < (strs (ns.map decS)).length := by rw [hlen, hsp]; simp
    have hc : ∀ h : vs.length < (strs (ns.map decS)).length, (strs (ns.map decS))[vs.length]'h = .str (decS r) := by subst hsp; intro h; simp [strs]
    rw [List.length_cons, roundsA_step (stepO1 E cf m FP hp _ vs.length hlt (by omega) (decS r) r hc (hF r (hn r (by rw [hsp]; simp))) c z0 z2 zs vs rfl rest.length)]
    have := ih (vs ++ [r]) kk (by rw [hsp]; simp) (by simp at hk; omega)
    rw [List.length_append, List.length_singleton] at this
    exact this

def stO2 (ds : List SV) (i : Nat) (c : Nat → Cell) (z0 z2 : Box) (zs : List Box) (vs : List Nat) (z : Nat) : SA := { nt := 357, tm := [(126, .sv (.int .i64 i)), (125, .sv (.int .i64 ds.length)), (124, .sv (.sl ds)), (5, .ptr 2 0), (4, .ptr 1 0), (2, .ptr 0 0)], lz := none, bx := z0 :: .live [c 0, c 1, .lrw (zs.length + 1 + 1 + 1) ds.length 1, c 3, c 4, c 5, c 6, c 7, c 8, c 9] :: z2 :: (zs ++ [.live (siRow vs z)]), df := [], lk := true }

set_option maxHeartbeats 4000000 in
theorem stepO2 (E : Env) (cf : CallF) (m : Nat) (FP : List SV → Option AV) (hp : E.pure 120 = some FP) (ds : List SV) (i : Nat) (hlt : i < ds.length) (hl : ds.length < 1000000) (d : List UInt8) (v : Nat) (hc : ∀ h : i < ds.length, ds[i]'h = .str d) (hF : FP [.str d, .int .i64 10, .int .i64 64] = some (.sv (.tup [.int .u64 (v : Int), .nilI]))) (c : Nat → Cell) (z0 z2 : Box) (zs : List Box) (vs : List Nat) (hv : vs.length = i) (z : Nat) :
    evCA E cf m b100_7 (stO2 ds i c z0 z2 zs vs (z + 1)) = some (.normal, stO2 ds (i + 1) c z0 z2 zs (vs ++ [v]) z) := by
  have hw : IntKind.i64.wrap ((i : Int) + 1) = ((i + 1 : Nat) : Int) := by rw [IntKind.wrap_i64]; omega
  have hs := siRow_set vs v z
  rw [hv] at hs
  have hn : i < (siRow vs (z + 1)).length := by rw [siRow_len, hv]; omega
  simp [stO2, b100_7, hlt, hc, hw, hp, hF, hs, hn]

theorem loopO2 (E : Env) (cf : CallF) (m : Nat) (FP : List SV → Option AV) (hp : E.pure 120 = some FP) (hF : ∀ n : Nat, n < 18446744073709551616 → FP [.str (decS n), .int .i64 10, .int .i64 64] = some (.sv (.tup [.int .u64 (n : Int), .nilI]))) (ns : List Nat) (hl : ns.length < 1000000) (hn : ∀ n ∈ ns, n < 18446744073709551616) (c : Nat → Cell) (z0 z2 : Box) (zs : List Box) :
    ∀ (rest vs : List Nat) (kk : Nat), ns = vs ++ rest → rest.length < kk →
      roundsA (evCA E cf m b100_7) kk (stO2 (strs (ns.map decS)) vs.length c z0 z2 zs vs rest.length) = some (.exit 7, { nt := 357, tm := [(5, .ptr 2 0), (4, .ptr 1 0), (2, .ptr 0 0)], lz := none, bx := z0 :: .live [c 0, c 1, .lrw (zs.length + 1 + 1 + 1) ns.length 1, c 3, c 4, c 5, c 6, c 7, c 8, c 9] :: z2 :: (zs ++ [.live (siRow ns 0)]), df := [], lk := true }) := by
  have hlen : (strs (ns.map decS)).length = ns.length := by simp [strs]
  intro rest
  induction rest with
  | nil =>
    intro vs kk hsp hk
    obtain ⟨kk, rfl⟩ : ∃ k', kk = k' + 1 := ⟨kk - 1, by omega⟩
    simp only [List.append_nil] at hsp
    subst hsp
    refine roundsA_out ?_ (by simp)
    simp [stO2, b100_7, hlen]
  | cons r rest ih =>
    intro vs kk hsp hk
    obtain ⟨kk, rfl⟩ : ∃ k', kk = k' + 1 := ⟨kk - 1, by omega⟩
    have hlt : vs.length < (strs (ns.map decS)).length := by rw [hlen, hsp]; simp
    have hc : ∀ h : vs.length < (strs (ns.map decS)).length, (strs (ns.map decS))[vs.length]'h = .str (decS r) := by subst hsp; intro h; simp [strs]
    rw [List.length_cons, roundsA_step (stepO2 E cf m FP hp _ vs.length hlt (by omega) (decS r) r hc (hF r (hn r (by rw [hsp]; simp))) c z0 z2 zs vs rfl rest.length)]
    have := ih (vs ++ [r]) kk (by rw [hsp]; simp) (by simp at hk; omega)
    rw [List.length_append, List.length_singleton] at this
    exact this

def stO3 (ds : List SV) (i : Nat) (c : Nat → Cell) (z0 z2 : Box) (zs : List Box) (vs : List Nat) (z : Nat) : SA := { nt := 357, tm := [(155, .sv (.int .i64 i)), (154, .sv (.int .i64 ds.length)), (153, .sv (.sl ds)), (5, .ptr 2 0), (4, .ptr 1 0), (2, .ptr 0 0)], lz := none, bx := z0 :: .live [c 0, c 1, c 2, .lrw (zs.length + 1 + 1 + 1) ds.length 1, c 4, c 5, c 6, c 7, c 8, c 9] :: z2 :: (zs ++ [.live (siRow vs z)]), df := [], lk := true }

set_option maxHeartbeats 4000000 in
theorem stepO3 (E : Env) (cf : CallF) (m : Nat) (FP : List SV → Option AV) (hp : E.pure 120 = some FP) (ds : List SV) (i : Nat) (hlt : i < ds.length) (hl : ds.length < 1000000) (d : List UInt8) (v : Nat) (hc : ∀ h : i < ds.length, ds[i]'h = .str d) (hF : FP [.str d, .int .i64 10, .int .i64 64] = some (.sv (.tup [.int .u64 (v : Int), .nilI]))) (c : Nat → Cell) (z0 z2 : Box) (zs : List Box) (vs : List Nat) (hv : vs.length = i) (z : Nat) :
    evCA E cf m b100_6 (stO3 ds i c z0 z2 zs vs (z + 1)) = some (.normal, stO3 ds (i + 1) c z0 z2 zs (vs ++ [v]) z) := by
  have hw : IntKind.i64.wrap ((i : Int) + 1) = ((i + 1 : Nat) : Int) := by rw [IntKind.wrap_i64]; omega
  have hs := siRow_set vs v z
  rw [hv] at hs
  have hn : i < (siRow vs (z + 1)).length := by rw [siRow_len, hv]; omega
  simp [stO3, b100_6, hlt, hc, hw, hp, hF, hs, hn]

theorem loopO3 (E : Env) (cf : CallF) (m : Nat) (FP : List SV → Option AV) (hp : E.pure 120 = some FP) (hF : ∀ n : Nat, n < 18446744073709551616 → FP [.str (decS n), .int .i64 10, .int .i64 64] = some (.sv (.tup [.int .u64 (n : Int), .nilI]))) (ns : List Nat) (hl : ns.length < 1000000) (hn : ∀ n ∈ ns, n < 18446744073709551616) (c : Nat → Cell) (z0 z2 : Box) (zs : List Box) :
    ∀ (rest vs : List Nat) (kk : Nat), ns = vs ++ rest → rest.length < kk →
      roundsA (evCA E cf m b100_6) kk (stO3 (strs (ns.map decS)) vs.length c z0 z2 zs vs rest.length) = some (.exit 9, { nt := 357, tm := [(5, .ptr 2 0), (4, .ptr 1 0), (2, .ptr 0 0)], lz := none, bx := z0 :: .live [c 0, c 1, c 2, .lrw (zs.length + 1 + 1 + 1) ns.length 1, c 4, c 5, c 6, c 7, c 8, c 9] :: z2 :: (zs ++ [.live (siRow ns 0)]), df := [], lk := true }) := by
  have hlen : (strs (ns.map decS)).length = ns.length := by simp [strs]
  intro rest
  induction rest with
  | nil =>
    intro vs kk hsp hk
    obtain ⟨kk, rfl⟩ : ∃ k', kk = k' + 1 := ⟨kk - 1, by omega⟩
    simp only [List.append_nil] at hsp
    subst hsp
    refine roundsA_out ?_ (by simp)
    simp [stO3, b100_6, hlen]
  | cons r rest ih =>
    intro vs kk hsp hk
    obtain ⟨kk, rfl⟩ : ∃ k', kk = k' + 1 := ⟨kk - 1, by omega⟩
    have hlt : vs.length < (strs (ns.map decS)).length := by rw [hlen, hsp]; simp
    have hc : ∀ h : vs.length < (strs (ns.map decS)).length, (strs (ns.map decS))[vs.length]'h = .str (decS r) := by subst hsp; intro h; simp [strs]
    rw [List.length_cons, roundsA_step (stepO3 E cf m FP hp _ vs.length hlt (by omega) (decS r) r hc (hF r (hn r (by rw [hsp]; simp))) c z0 z2 zs vs rfl rest.length)]
    have := ih (vs ++ [r]) kk (by rw [hsp]; simp) (by simp at hk; omega)
    rw [List.length_append, List.length_singleton] at this
    exact this

def stO4 (ds : List SV) (i : Nat) (c : Nat → Cell) (z0 z2 : Box) (zs : List Box) (vs : List Nat) (z : Nat) : SA := { nt := 357, tm := [(184, .sv (.int .i64 i)), (183, .sv (.int .i64 ds.length)), (182, .sv (.sl ds)), (5, .ptr 2 0), (4, .ptr 1 0), (2, .ptr 0 0)], lz := none, bx := z0 :: .live [c 0, c 1, c 2, c 3, .lrw (zs.length + 1 + 1 + 1) ds.length 1, c 5, c 6, c 7, c 8, c 9] :: z2 :: (zs ++ [.live (siRow vs z)]), df := [], lk := true }

set_option maxHeartbeats 4000000 in
theorem stepO4 (E : Env) (cf : CallF) (m : Nat) (FP : List SV → Option AV) (hp : E.pure 120 = some FP) (ds : List SV) (i : Nat) (hlt : i < ds.length) (hl : ds.length < 1000000) (d : List UInt8) (v : Nat) (hc : ∀ h : i < ds.length, ds[i]'h = .str d) (hF : FP [.str d, .int .i64 10, .int .i64 64] = some (.sv (.tup [.int .u64 (v : Int), .nilI]))) (c : Nat → Cell) (z0 z2 : Box) (zs : List Box) (vs : List Nat) (hv : vs.length = i) (z : Nat) :
    evCA E cf m b100_5 (stO4 ds i c z0 z2 zs vs (z + 1)) = some (.normal, stO4 ds (i + 1) c z0 z2 zs (vs ++ [v]) z) := by
  have hw : IntKind.i64.wrap ((i : Int) + 1) = ((i + 1 : Nat) : Int) := by rw [IntKind.wrap_i64]; omega
  have hs := siRow_set vs v z
  rw [hv] at hs
  have hn : i < (siRow vs (z + 1)).length := by rw [siRow_len, hv]; omega
  simp [stO4, b100_5, hlt, hc, hw, hp, hF, hs, hn]

theorem loopO4 (E : Env) (cf : CallF) (m : Nat) (FP : List SV → Option AV) (hp : E.pure 120 = some FP) (hF : ∀ n : Nat, n < 18446744073709551616 → FP [.str (decS n), .int .i64 10, .int .i64 64] = some (.sv (.tup [.int .u64 (n : Int), .nilI]))) (ns : List Nat) (hl : ns.length < 1000000) (hn : ∀ n ∈ ns, n < 18446744073709551616) (c : Nat → Cell) (z0 z2 : Box) (zs : List Box) :
    ∀ (rest vs : List Nat) (kk : Nat), ns = vs ++ rest → rest.length < kk →
      roundsA (evCA E cf m b100_5) kk (stO4 (strs (ns.map decS)) vs.length c z0 z2 zs vs rest.length) = some (.exit 11, { nt := 357, tm := [(5, .ptr 2 0), (4, .ptr 1 0), (2, .ptr 0 0)], lz := none, bx := z0 :: .live [c 0, c 1, c 2, c 3, .lrw (zs.length + 1 + 1 + 1) ns.length 1, c 5, c 6, c 7, c 8, c 9] :: z2 :: (zs ++ [.live (siRow ns 0)]), df := [], lk := true }) := by
  have hlen : (strs (ns.map decS)).length = ns.length := by simp [strs]
  intro rest
  induction rest with
  | nil =>
    intro vs kk hsp hk
    obtain ⟨kk, rfl⟩ : ∃ k', kk = k' + 1 := ⟨kk - 1, by omega⟩
    simp only [List.append_nil] at hsp
    subst hsp
    refine roundsA_out ?_ (by simp)
    simp [stO4, b100_5, hlen]
  | cons r rest ih =>
    intro vs kk hsp hk
    obtain ⟨kk, rfl⟩ : ∃ k', kk = k' + 1 := ⟨kk - 1, by omega⟩
    have hlt : vs.length < (strs (ns.map decS)).length := by rw [hlen, hsp]; simp
    have hc : ∀ h : vs.length < (strs (ns.map decS)).length, (strs (ns.map decS))[vs.length]'h = .str (decS r) := by subst hsp; intro h; simp [strs]
    rw [List.length_cons, roundsA_step (stepO4 E cf m FP hp _ vs.length hlt (by omega) (decS r) r hc (hF r (hn r (by rw [hsp]; simp))) c z0 z2 zs vs rfl rest.length)]
    have := ih (vs ++ [r]) kk (by rw [hsp]; simp) (by simp at hk; omega)
    rw [List.length_append, List.length_singleton] at this
    exact this

def stO5 (ds : List SV) (i : Nat) (c : Nat → Cell) (z0 z2 : Box) (zs : List Box) (vs : List Nat) (z : Nat) : SA := { nt := 357, tm := [(213, .sv (.int .i64 i)), (212, .sv (.int .i64 ds.length)), (211, .sv (.sl ds)), (5, .ptr 2 0), (4, .ptr 1 0), (2, .ptr 0 0)], lz := none, bx := z0 :: .live [c 0, c 1, c 2, c 3, c 4, .lrw (zs.length + 1 + 1 + 1) ds.length 1, c 6, c 7, c 8, c 9] :: z2 :: (zs ++ [.live (siRow vs z)]), df := [], lk := true }

set_option maxHeartbeats 4000000 in
theorem stepO5 (E : Env) (cf : CallF) (m : Nat) (FP : List SV → Option AV) (hp : E.pure 120 = some FP) (ds : List SV) (i : Nat) (hlt : i < ds.length) (hl : ds.length < 1000000) (d : List UInt8) (v : Nat) (hc : ∀ h : i < ds.length, ds[i]'h = .str d) (hF : FP [.str d, .int .i64 10, .int .i64 64] = some (.sv (.tup [.int .u64 (v : Int), .nilI]))) (c : Nat → Cell) (z0 z2 : Box) (zs : List Box) (vs : List Nat) (hv : vs.length = i) (z : Nat) :
    evCA E cf m b100_4 (stO5 ds i c z0 z2 zs vs (z + 1)) = some (.normal, stO5 ds (i + 1) c z0 z2 zs (vs ++ [v]) z) := by
  have hw : IntKind.i64.wrap ((i : Int) + 1) = ((i + 1 : Nat) : Int) := by rw [IntKind.wrap_i64]; omega
  have hs := siRow_set vs v z
  rw [hv] at hs
  have hn : i < (siRow vs (z + 1)).length := by rw [siRow_len, hv]; omega
  simp [stO5, b100_4, hlt, hc, hw, hp, hF, hs, hn]

theorem loopO5 (E : Env) (cf : CallF) (m : Nat) (FP : List SV → Option AV) (hp : E.pure 120 = some FP) (hF : ∀ n : Nat, n < 18446744073709551616 → FP [.str (decS n), .int .i64 10, .int .i64 64] = some (.sv (.tup [.int .u64 (n : Int), .nilI]))) (ns : List Nat) (hl : ns.length < 1000000) (hn : ∀ n ∈ ns, n < 18446744073709551616) (c : Nat → Cell) (z0 z2 : Box) (zs : List Box) :
    ∀ (rest vs : List Nat) (kk : Nat), ns = vs ++ rest → rest.length < kk →
      roundsA (evCA E cf m b100_4) kk (stO5 (strs (ns.map decS)) vs.length c z0 z2 zs vs rest.length) = some (.exit 13, { nt := 357, tm := [(5, .ptr 2 0), (4, .ptr 1 0), (2, .ptr 0 0)], lz := none, bx := z0 :: .live [c 0, c 1, c 2, c 3, c 4, .lrw (zs.length + 1 + 1 + 1) ns.length 1, c 6, c 7, c 8, c 9] :: z2 :: (zs ++ [.live (siRow ns 0)]), df := [], lk := true }) := by
  have hlen : (strs (ns.map decS)).length = ns.length := by simp [strs]
  intro rest
  induction rest with
  | nil =>
    intro vs kk hsp hk
    obtain ⟨kk, rfl⟩ : ∃ k', kk = k' + 1 := ⟨kk - 1, by omega⟩
    simp only [List.append_nil] at hsp
    subst hsp
    refine roundsA_out ?_ (by simp)
    simp [stO5, b100_4, hlen]
  | cons r rest ih =>
    intro vs kk hsp hk
    obtain ⟨kk, rfl⟩ : ∃ k', kk = k' + 1 := ⟨kk - 1, by omega⟩
    have hlt : vs.length < (strs (ns.map decS)).length := by rw [hlen, hsp]; simp
    have hc : ∀ h : vs.length < (strs (ns.map decS)).length, (strs (ns.map decS))[vs.length]'h = .str (decS r) := by subst hsp; intro h; simp [strs]
    rw [List.length_cons, roundsA_step (stepO5 E cf m FP hp _ vs.length hlt (by omega) (decS r) r hc (hF r (hn r (by rw [hsp]; simp))) c z0 z2 zs vs rfl rest.length)]
    have := ih (vs ++ [r]) kk (by rw [hsp]; simp) (by simp at hk; omega)
    rw [List.length_append, List.length_singleton] at this
    exact this

def stO6 (ds : List SV) (i : Nat) (c : Nat → Cell) (z0 z2 : Box) (zs : List Box) (vs : List Nat) (z : Nat) : SA := { nt := 357, tm := [(242, .sv (.int .i64 i)), (241, .sv (.int .i64 ds.length)), (240, .sv (.sl ds)), (5, .ptr 2 0), (4, .ptr 1 0), (2, .ptr 0 0)], lz := none, bx := z0 :: .live [c 0, c 1, c 2, c 3, c 4, c 5, .lrw (zs.length + 1 + 1 + 1) ds.length 1, c 7, c 8, c 9] :: z2 :: (zs ++ [.live (siRow vs z)]), df := [], lk := true }

set_option maxHeartbeats 4000000 in
theorem stepO6 (E : Env) (cf : CallF) (m : Nat) (FP : List SV → Option AV) (hp : E.pure 120 = some FP) (ds : List SV) (i : Nat) (hlt : i < ds.length) (hl : ds.length < 1000000) (d : List UInt8) (v : Nat) (hc : ∀ h : i < ds.length, ds[i]'h = .str d) (hF : FP [.str d, .int .i64 10, .int .i64 64] = some (.sv (.tup [.int .u64 (v : Int), .nilI]))) (c : Nat → Cell) (z0 z2 : Box) (zs : List Box) (vs : List Nat) (hv : vs.length = i) (z : Nat) :
    evCA E cf m b100_3 (stO6 ds i c z0 z2 zs vs (z + 1)) = some (.normal, stO6 ds (i + 1) c z0 z2 zs (vs ++ [v]) z) := by
  have hw : IntKind.i64.wrap ((i : Int) + 1) = ((i + 1 : Nat) : Int) := by rw [IntKind.wrap_i64]; omega
  have hs := siRow_set vs v z
  rw [hv] at hs
  have hn : i < (siRow vs (z + 1)).length := by rw [siRow_len, hv]; omega
  simp [stO6, b100_3, hlt, hc, hw, hp, hF, hs, hn]

theorem loopO6 (E : Env) (cf : CallF) (m : Nat) (FP : List SV → Option AV) (hp : E.pure 120 = some FP) (hF : ∀ n : Nat, n < 18446744073709551616 → FP [.str (decS n), .int .i64 10, .int .i64 64] = some (.sv (.tup [.int .u64 (n : Int), .nilI]))) (ns : List Nat) (hl : ns.length < 1000000) (hn : ∀ n ∈ ns, n < 18446744073709551616) (c : Nat → Cell) (z0 z2 : Box) (zs : List Box) :
    ∀ (rest vs : List Nat) (kk : Nat), ns = vs ++ rest → rest.length < kk →
      roundsA (evCA E cf m b100_3) kk (stO6 (strs (ns.map decS)) vs.length c z0 z2 zs vs rest.length) = some (.exit 15, { nt := 357, tm := [(5, .ptr 2 0), (4, .ptr 1 0), (2, .ptr 0 0)], lz := none, bx := z0 :: .live [c 0, c 1, c 2, c 3, c 4, c 5, .lrw (zs.length + 1 + 1 + 1) ns.length 1, c 7, c 8, c 9] :: z2 :: (zs ++ [.live (siRow ns 0)]), df := [], lk := true }) := by
  have hlen : (strs (ns.map decS)).length = ns.length := by simp [strs]
  intro rest
  induction rest with
  | nil =>
    intro vs kk hsp hk
    obtain ⟨kk, rfl⟩ : ∃ k', kk = k' + 1 := ⟨kk - 1, by omega⟩
    simp only [List.append_nil] at hsp
    subst hsp
    refine roundsA_out ?_ (by simp)
    simp [stO6, b100_3, hlen]
  | cons r rest ih =>
    intro vs kk hsp hk
    obtain ⟨kk, rfl⟩ : ∃ k', kk = k' + 1 := ⟨kk - 1, by omega⟩
    have hlt : vs.length < (strs (ns.map decS)).length := by rw [hlen, hsp]; simp
    have hc : ∀ h : vs.length < (strs (ns.map decS)).length, (strs (ns.map decS))[vs.length]'h = .str (decS r) := by subst hsp; intro h; simp [strs]
    rw [List.length_cons, roundsA_step (stepO6 E cf m FP hp _ vs.length hlt (by omega) (decS r) r hc (hF r (hn r (by rw [hsp]; simp))) c z0 z2 zs vs rfl rest.length)]
    have := ih (vs ++ [r]) kk (by rw [hsp]; simp) (by simp at hk; omega)
    rw [List.length_append, List.length_singleton] at this
    exact this

def stO7 (ds : List SV) (i : Nat) (c : Nat → Cell) (z0 z2 : Box) (zs : List Box) (vs : List Nat) (z : Nat) : SA := { nt := 357, tm := [(271, .sv (.int .i64 i)), (270, .sv (.int .i64 ds.length)), (269, .sv (.sl ds)), (5, .ptr 2 0), (4, .ptr 1 0), (2, .ptr 0 0)], lz := none, bx := z0 :: .live [c 0, c 1, c 2, c 3, c 4, c 5, c 6, .lrw (zs.length + 1 + 1 + 1) ds.length 1, c 8, c 9] :: z2 :: (zs ++ [.live (siRow vs z)]), df := [], lk := true }

set_option maxHeartbeats 4000000 in
theorem stepO7 (E : Env) (cf : CallF) (m : Nat) (FP : List SV → Option AV) (hp : E.pure 120 = some FP) (ds : List SV) (i : Nat) (hlt : i < ds.length) (hl : ds.length < 1000000) (d : List UInt8) (v : Nat) (hc : ∀ h : i < ds.length, ds[i]'h = .str d) (hF : FP [.str d, .int .i64 10, .int .i64 64] = some (.sv (.tup [.int .u64 (v : Int), .nilI]))) (c : Nat → Cell) (z0 z2 : Box) (zs : List Box) (vs : List Nat) (hv : vs.length = i) (z : Nat) :
    evCA E cf m b100_2 (stO7 ds i c z0 z2 zs vs (z + 1)) = some (.normal, stO7 ds (i + 1) c z0 z2 zs (vs ++ [v]) z) := by
  have hw : IntKind.i64.wrap ((i : Int) + 1) = ((i + 1 : Nat) : Int) := by rw [IntKind.wrap_i64]; omega
  have hs := siRow_set vs v z
  rw [hv] at hs
  have hn : i < (siRow vs (z + 1)).length := by rw [siRow_len, hv]; omega
  simp [stO7, b100_2, hlt, hc, hw, hp, hF, hs, hn]

theorem loopO7 (E : Env) (cf : CallF) (m : Nat) (FP : List SV → Option AV) (hp : E.pure 120 = some FP) (hF : ∀ n : Nat, n < 18446744073709551616 → FP [.str (decS n), .int .i64 10, .int .i64 64] = some (.sv (.tup [.int .u64 (n : Int), .nilI]))) (ns : List Nat) (hl : ns.length < 1000000) (hn : ∀ n ∈ ns, n < 18446744073709551616) (c : Nat → Cell) (z0 z2 : Box) (zs : List Box) :
    ∀ (rest vs : List Nat) (kk : Nat), ns = vs ++ rest → rest.length < kk →
      roundsA (evCA E cf m b100_2) kk (stO7 (strs (ns.map decS)) vs.length c z0 z2 zs vs rest.length) = some (.exit 17, { nt := 357, tm := [(5, .ptr 2 0), (4, .ptr 1 0), (2, .ptr 0 0)], lz := none, bx := z0 :: .live [c 0, c 1, c 2, c 3, c 4, c 5, c 6, .lrw (zs.length + 1 + 1 + 1) ns.length 1, c 8, c 9] :: z2 :: (zs ++ [.live (siRow ns 0)]), df := [], lk := true }) := by
  have hlen : (strs (ns.map decS)).length = ns.length := by simp [strs]
  intro rest
  induction rest with
  | nil =>
    intro vs kk hsp hk
    obtain ⟨kk, rfl⟩ : ∃ k', kk = k' + 1 := ⟨kk - 1, by omega⟩
    simp only [List.append_nil] at hsp
    subst hsp
    refine roundsA_out ?_ (by simp)
    simp [stO7, b100_2, hlen]
  | cons r rest ih =>
    intro vs kk hsp hk
    obtain ⟨kk, rfl⟩ : ∃ k', kk = k' + 1 := ⟨kk - 1, by omega⟩
    have hlt : vs.length < (strs (ns.map decS)).length := by rw [hlen, hsp]; simp
    have hc : ∀ h : vs.length < (strs (ns.map decS)).length, (strs (ns.map decS))[vs.length]'h = .str (decS r) := by subst hsp; intro h; simp [strs]
    rw [List.length_cons, roundsA_step (stepO7 E cf m FP hp _ vs.length hlt (by omega) (decS r) r hc (hF r (hn r (by rw [hsp]; simp))) c z0 z2 zs vs rfl rest.length)]
    have := ih (vs ++ [r]) kk (by rw [hsp]; simp) (by simp at hk; omega)
    rw [List.length_append, List.length_singleton] at this
    exact this

def stO8 (ds : List SV) (i : Nat) (c : Nat → Cell) (z0 z2 : Box) (zs : List Box) (vs : List Nat) (z : Nat) : SA := { nt := 357, tm := [(300, .sv (.int .i64 i)), (299, .sv (.int .i64 ds.length)), (298, .sv (.sl ds)), (5, .ptr 2 0), (4, .ptr 1 0), (2, .ptr 0 0)], lz := none, bx := z0 :: .live [c 0, c 1, c 2, c 3, c 4, c 5, c 6, c 7, .lrw (zs.length + 1 + 1 + 1) ds.length 1, c 9] :: z2 :: (zs ++ [.live (siRow vs z)]), df := [], lk := true }

set_option maxHeartbeats 4000000 in
theorem stepO8 (E : Env) (cf : CallF) (m : Nat) (FP : List SV → Option AV) (hp : E.pure 120 = some FP) (ds : List SV) (i : Nat) (hlt : i < ds.length) (hl : ds.length < 1000000) (d : List UInt8) (v : Nat) (hc : ∀ h : i < ds.length, ds[i]'h = .str d) (hF : FP [.str d, .int .i64 10, .int .i64 64] = some (.sv (.tup [.int .u64 (v : Int), .nilI]))) (c : Nat → Cell) (z0 z2 : Box) (zs : List Box) (vs : List Nat) (hv : vs.length = i) (z : Nat) :
    evCA E cf m b100_1 (stO8 ds i c z0 z2 zs vs (z + 1)) = some (.normal, stO8 ds (i + 1) c z0 z2 zs (vs ++ [v]) z) := by
  have hw : IntKind.i64.wrap ((i : Int) + 1) = ((i + 1 : Nat) : Int) := by rw [IntKind.wrap_i64]; omega
  have hs := siRow_set vs v z
  rw [hv] at hs
  have hn : i < (siRow vs (z + 1)).length := by rw [siRow_len, hv]; omega
  simp [stO8, b100_1, hlt, hc, hw, hp, hF, hs, hn]

theorem loopO8 (E : Env) (cf : CallF) (m : Nat) (FP : List SV → Option AV) (hp : E.pure 120 = some FP) (hF : ∀ n : Nat, n < 18446744073709551616 → FP [.str (decS n), .int .i64 10, .int .i64 64] = some (.sv (.tup [.int .u64 (n : Int), .nilI]))) (ns : List Nat) (hl : ns.length < 1000000) (hn : ∀ n ∈ ns, n < 18446744073709551616) (c : Nat → Cell) (z0 z2 : Box) (zs : List Box) :
    ∀ (rest vs : List Nat) (kk : Nat), ns = vs ++ rest → rest.length < kk →
      roundsA (evCA E cf m b100_1) kk (stO8 (strs (ns.map decS)) vs.length c z0 z2 zs vs rest.length) = some (.exit 19, { nt := 357, tm := [(5, .ptr 2 0), (4, .ptr 1 0), (2, .ptr 0 0)], lz := none, bx := z0 :: .live [c 0, c 1, c 2, c 3, c 4, c 5, c 6, c 7, .lrw (zs.length + 1 + 1 + 1) ns.length 1, c 9] :: z2 :: (zs ++ [.live (siRow ns 0)]), df := [], lk := true }) := by
  have hlen : (strs (ns.map decS)).length = ns.length := by simp [strs]
  intro rest
  induction rest with
  | nil =>
    intro vs kk hsp hk
    obtain ⟨kk, rfl⟩ : ∃ k', kk = k' + 1 := ⟨kk - 1, by omega⟩
    simp only [List.append_nil] at hsp
    subst hsp
    refine roundsA_out ?_ (by simp)
    simp [stO8, b100_1, hlen]
  | cons r rest ih =>
    intro vs kk hsp hk
    obtain ⟨kk, rfl⟩ : ∃ k', kk = k' + 1 := ⟨kk - 1, by omega⟩
    have hlt : vs.length < (strs (ns.map decS)).length := by rw [hlen, hsp]; simp
    have hc : ∀ h : vs.length < (strs (ns.map decS)).length, (strs (ns.map decS))[vs.length]'h = .str (decS r) := by subst hsp; intro h; simp [strs]
    rw [List.length_cons, roundsA_step (stepO8 E cf m FP hp _ vs.length hlt (by omega) (decS r) r hc (hF r (hn r (by rw [hsp]; simp))) c z0 z2 zs vs rfl rest.length)]
    have := ih (vs ++ [r]) kk (by rw [hsp]; simp) (by simp at hk; omega)
    rw [List.length_append, List.length_singleton] at this
    exact this

def stO9 (ds : List SV) (i : Nat) (c : Nat → Cell) (z0 z2 : Box) (zs : List Box) (vs : List Nat) (z : Nat) : SA := { nt := 357, tm := [(329, .sv (.int .i64 i)), (328, .sv (.int .i64 ds.length)), (327, .sv (.sl ds)), (5, .ptr 2 0), (4, .ptr 1 0), (2, .ptr 0 0)], lz := none, bx := z0 :: .live [c 0, c 1, c 2, c 3, c 4, c 5, c 6, c 7, c 8, .lrw (zs.length + 1 + 1 + 1) ds.length 1] :: z2 :: (zs ++ [.live (siRow vs z)]), df := [], lk := true }

set_option maxHeartbeats 4000000 in
theorem stepO9 (E : Env) (cf : CallF) (m : Nat) (FP : List SV → Option AV) (hp : E.pure 120 = some FP) (ds : List SV) (i : Nat) (hlt : i < ds.length) (hl : ds.length < 1000000) (d : List UInt8) (v : Nat) (hc : ∀ h : i < ds.length, ds[i]'h = .str d) (hF : FP [.str d, .int .i64 10, .int .i64 64] = some (.sv (.tup [.int .u64 (v : Int), .nilI]))) (c : Nat → Cell) (z0 z2 : Box) (zs : List Box) (vs : List Nat) (hv : vs.length = i) (z : Nat) :
    evCA E cf m b100_0 (stO9 ds i c z0 z2 zs vs (z + 1)) = some (.normal, stO9 ds (i + 1) c z0 z2 zs (vs ++ [v]) z) := by
  have hw : IntKind.i64.wrap ((i : Int) + 1) = ((i + 1 : Nat) : Int) := by rw [IntKind.wrap_i64]; omega
  have hs := siRow_set vs v z
  rw [hv] at hs
  have hn : i < (siRow vs (z + 1)).length := by rw [siRow_len, hv]; omega
  simp [stO9, b100_0, hlt, hc, hw, hp, hF, hs, hn]

theorem loopO9 (E : Env) (cf : CallF) (m : Nat) (FP : List SV → Option AV) (hp : E.pure 120 = some FP) (hF : ∀ n : Nat, n < 18446744073709551616 → FP [.str (decS n), .int .i64 10, .int .i64 64] = some (.sv (.tup [.int .u64 (n : Int), .nilI]))) (ns : List Nat) (hl : ns.length < 1000000) (hn : ∀ n ∈ ns, n < 18446744073709551616) (c : Nat → Cell) (z0 z2 : Box) (zs : List Box) :
    ∀ (rest vs : List Nat) (kk : Nat), ns = vs ++ rest → rest.length < kk →
      roundsA (evCA E cf m b100_0) kk (stO9 (strs (ns.map decS)) vs.length c z0 z2 zs vs rest.length) = some (.exit 21, { nt := 357, tm := [(5, .ptr 2 0), (4, .ptr 1 0), (2, .ptr 0 0)], lz := none, bx := z0 :: .live [c 0, c 1, c 2, c 3, c 4, c 5, c 6, c 7, c 8, .lrw (zs.length + 1 + 1 + 1) ns.length 1] :: z2 :: (zs ++ [.live (siRow ns 0)]), df := [], lk := true }) := by
  have hlen : (strs (ns.map decS)).length = ns.length := by simp [strs]
  intro rest
  induction rest with
  | nil =>
    intro vs kk hsp hk
    obtain ⟨kk, rfl⟩ : ∃ k', kk = k' + 1 := ⟨kk - 1, by omega⟩
    simp only [List.append_nil] at hsp
    subst hsp
    refine roundsA_out ?_ (by simp)
    simp [stO9, b100_0, hlen]
  | cons r rest ih =>
    intro vs kk hsp hk
    obtain ⟨kk, rfl⟩ : ∃ k', kk = k' + 1 := ⟨kk - 1, by omega⟩
    have hlt : vs.length < (strs (ns.map decS)).length := by rw [hlen, hsp]; simp
    have hc : ∀ h : vs.length < (strs (ns.map decS)).length, (strs (ns.map decS))[vs.length]'h = .str (decS r) := by subst hsp; intro h; simp [strs]
    rw [List.length_cons, roundsA_step (stepO9 E cf m FP hp _ vs.length hlt (by omega) (decS r) r hc (hF r (hn r (by rw [hsp]; simp))) c z0 z2 zs vs rfl rest.length)]
    have := ih (vs ++ [r]) kk (by rw [hsp]; simp) (by simp at hk; omega)
    rw [List.length_append, List.length_singleton] at this
    exact this

end Go.Ev
