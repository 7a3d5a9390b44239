/- The rows of cgroups, read by the program. -/
/- The rows of cgroups, read by the program, whole. -/
/- The door of cgroups: trees of its rows. -/
/- The door of cgroups, whole. -/
/- The law's frame: read. -/
import Derived.Test.YtabmfgoghdokbaaGreatDoorFD
set_option linter.unusedSimpArgs false
set_option linter.unusedVariables false
namespace Go.Ev
open Go.Proofs

theorem ev130' (s w : List UInt8) : F144 [.str s, .str w] = some (.sv (.bool (decide (w.length ≤ s.length) && (s.take w.length == w)))) := rfl

def F130 : List SV → Option AV
  | [.str s, .str w] => some (.sv (.bool (decide (w.length ≤ s.length) && (s.take w.length == w))))
  | _ => none

theorem cgLine_eq (r : RowD) : cgLine r = cgBody r ++ [10] := by simp [cgLine, cgBody]

theorem loop116 (E : Env) (N : Nat) (h88 : E.code 88 = some c88) (h90 : E.code 90 = some c90) (hp88 : E.pure 88 = none) (hp90 : E.pure 90 = none) (h130 : E.pure 130 = some F130) (h131 : E.pure 131 = some F131) (m : Nat) :
    ∀ (rest : List RowD) (acc : List SV) (t : List UInt8) (k : Nat), (∀ r ∈ rest, cgOk r = true ∧ (cgBody r).length < 65536 ∧ (cgBody r).length < N) → (rest.map cgLine).flatten.length < 1000000000 → acc.length + rest.length < 1000000000 → uni 4 acc = true → rest.length < k →
      rounds (evC E (evF E (N + 1)) m b116_0) k { tm := [.sv .undef, .sv .undef, .sv .undef, .sv .undef, accA 105 acc, .ptr 0 0] ++ List.replicate 31 (.sv .undef), lz := none, bx := [scanBox (rest.map cgLine).flatten t], df := [] } =
        some (.exit 0, { tm := [.sv .undef, .sv .undef, .sv .undef, .sv .undef, accA 105 (acc ++ rest.map fun r => .agg (cgVal r)), .ptr 0 0] ++ List.replicate 31 (.sv .undef), lz := none, bx := [scanBox [] []], df := [] }) := by
  intro rest
  induction rest with
  | nil =>
    intro acc t k hr hfl hal hu hk
    obtain ⟨k, rfl⟩ : ∃ k', k = k' + 1 := ⟨k - 1, by omega⟩
    have hs := scan88e E h88 0 [scanBox [] t] t rfl N
    refine rounds_out ?_ (by simp)
    simp at hs
    simp [b116_0, List.replicate, hp88, hs]
  | cons r rest ih =>
    intro acc t k hr hfl hal hu hk
    obtain ⟨k, rfl⟩ : ∃ k', k = k' + 1 := ⟨k - 1, by omega⟩
    obtain ⟨r1, r2, r3⟩ := hr r (by simp)
    obtain ⟨k1, k2, x, y, z, k3, _⟩ := cgBody_spec r1
    have hfe : ((r :: rest).map cgLine).flatten = cgBody r ++ 10 :: (rest.map cgLine).flatten := by simp [cgLine_eq]
    rw [hfe] at hfl ⊢
    simp only [List.length_append, List.length_cons] at hfl
    have hs := scan88 E h88 0 [scanBox (cgBody r ++ 10 :: (rest.map cgLine).flatten) t] (cgBody r) (rest.map cgLine).flatten t rfl r2 (by omega) (fun c hc => (k1 c hc).2) N r3
    have h90' := evF90 E h90 N 0 [scanBox (rest.map cgLine).flatten (cgBody r)] (rest.map cgLine).flatten (cgBody r) rfl
    have hF := F131_eq r1 (by omega)
    have hu' : uni 4 (acc ++ [.agg (cgVal r)]) = true := by
      simp only [uni, List.all_append, List.all_cons, List.all_nil, Bool.and_true] at hu ⊢
      rw [hu]; simp [cgVal, k3, SV.cells]
    have he := ih (acc ++ [.agg (cgVal r)]) (cgBody r) k (fun q hq => hr q (by simp [hq])) (by omega) (by simp at hal ⊢; omega) hu' (by simp at hk; omega)
    rw [show acc ++ (r :: rest).map (fun r => SV.agg (cgVal r)) = acc ++ [.agg (cgVal r)] ++ rest.map (fun r => SV.agg (cgVal r)) from by simp, ← he]
    refine rounds_step ?_
    simp at hs
    generalize (rest.map cgLine).flatten = F at *
    have hF130 : F130 [.str (cgBody r), .str [35]] = some (.sv (.bool false)) := by
      simp only [F130, List.length_singleton]
      have : ((cgBody r).take 1 == [35]) = false := by simpa using k2
      rw [this]; simp
    have hl1 : (acc.length + 1) * 40 ≤ 140737488355328 := by simp at hal; omega
    have hl2 : acc.length + 1 ≤ 140737488355328 := by simp at hal; omega
    simp only [cgVal, k3, List.map_cons, List.map_nil] at hF hu' ⊢
    generalize cgBody r = B at *
    cases acc with
    | nil => simp [b116_0, List.replicate, hp88, hp90, h130, h131, hs, h90', hF130, hF, accA]
    | cons q qs =>
      simp only [List.length_cons] at hl1 hl2
      simp [b116_0, List.replicate, hp88, hp90, h130, h131, hs, h90', hF130, hF, accA, hl1, hl2]

end Go.Ev

set_option linter.unusedSimpArgs false
set_option linter.unusedVariables false
namespace Go.Ev
open Go.Proofs

theorem svBytes_bytes : ∀ (s : List UInt8), svBytes (bytesSV s) = some s
  | [] => rfl
  | c :: s => by
    have ih := svBytes_bytes s
    simp only [bytesSV] at ih ⊢
    simp only [List.map_cons, svBytes, ih, Int.toNat_natCast]
    simp

def cgHeadL : List UInt8 := [35, 115, 117, 98, 115, 121, 115, 95, 110, 97, 109, 101, 9, 104, 105, 101, 114, 97, 114, 99, 104, 121, 9, 110, 117, 109, 95, 99, 103, 114, 111, 117, 112, 115, 9, 101, 110, 97, 98, 108, 101, 100]

theorem cgHead_eq : cgHead = cgHeadL ++ [10] := rfl

theorem cgRead_spec {s : List UInt8} {rs : List RowD} (h : cgRead s = some rs) : (∀ r ∈ rs, cgOk r = true) ∧ cgHead ++ (rs.map cgLine).flatten = s ∧ ∀ c ∈ s, plainC c = true := by
  unfold cgRead at h
  split at h
  · simp at h
  · split at h
    · split at h <;> simp only [Option.some.injEq, reduceCtorEq] at h
      rename_i hc
      subst h
      exact ⟨fun r hr => List.all_eq_true.1 hc.2.1 r hr, hc.2.2, fun c hcs => List.all_eq_true.1 hc.1 c hcs⟩
    · simp at h

theorem mem_flat_len {l : List (List UInt8)} {x : List UInt8} (h : x ∈ l) : x.length ≤ l.flatten.length := by
  induction l with
  | nil => simp at h
  | cons y l ih =>
    simp only [List.flatten_cons, List.length_append]
    rcases List.mem_cons.1 h with rfl | h
    · omega
    · have := ih h; omega

theorem cgRead_len {s : List UInt8} {rs : List RowD} (h : cgRead s = some rs) : rs.length ≤ s.length ∧ (rs.map cgLine).flatten.length ≤ s.length ∧ ∀ r ∈ rs, (cgBody r).length < s.length := by
  obtain ⟨h1, h2, h3⟩ := cgRead_spec h
  have hl := congrArg List.length h2
  simp only [List.length_append] at hl
  refine ⟨?_, by omega, fun r hr => ?_⟩
  · have : ∀ (l : List RowD), l.length ≤ (l.map cgLine).flatten.length := by
      intro l
      induction l with
      | nil => simp
      | cons r l ih => simp only [List.map_cons, List.flatten_cons, List.length_append, List.length_cons, cgLine_eq, List.length_nil]; omega
    have := this rs
    omega
  · have := mem_flat_len (List.mem_map_of_mem (f := cgLine) hr)
    rw [cgLine_eq] at this
    simp only [List.length_append, List.length_cons, List.length_nil] at this
    omega

def cgRows (rs : List RowD) : List SV := rs.map fun r => .agg (cgVal r)

theorem ev116 (E : Env) (h : E.code 116 = some c116) (h87 : E.code 87 = some c87) (h88 : E.code 88 = some c88) (h90 : E.code 90 = some c90) (h128 : E.code 128 = some c128) (hp87 : E.pure 87 = none) (hp88 : E.pure 88 = none) (hp90 : E.pure 90 = none) (hp128 : E.pure 128 = none)
    (h130 : E.pure 130 = some F130) (h131 : E.pure 131 = some F131) (s : List UInt8) (rs : List RowD) (hr : cgRead s = some rs) (hs : s.length ≤ 40000) (N : Nat) (hN : s.length < N) :
    evP E (N + 1) 116 [.sl (bytesSV s)] = some (.sv (.tup [.sl (cgRows rs), .nilI])) := by
  obtain ⟨q1, q2, q3⟩ := cgRead_spec hr
  obtain ⟨l1, l2, l3⟩ := cgRead_len hr
  unfold evP
  simp only [h]
  have hb := svBytes_bytes s
  have h87' := evF87 E h87 N [] s
  have hs1 := scan88 E h88 0 [scanBox (cgHeadL ++ 10 :: (rs.map cgLine).flatten) []] cgHeadL (rs.map cgLine).flatten [] rfl (by decide) (by omega) (by decide) N (by rw [← q2] at hN; simp [cgHead] at hN; simp [cgHeadL]; omega)
  have h90' := evF90 E h90 N 0 [scanBox (rs.map cgLine).flatten cgHeadL] (rs.map cgLine).flatten cgHeadL rfl
  have h128' := evF128 E h128 N 0 [scanBox [] []] [] [] rfl
  have he := loop116 E N h88 h90 hp88 hp90 h130 h131 (N + 1) rs [] cgHeadL N (fun r hr' => ⟨q1 r hr', by have := l3 r hr'; omega, by have := l3 r hr'; omega⟩) (by omega) (by simp; omega) rfl (by omega)
  have hse : s = cgHeadL ++ 10 :: (rs.map cgLine).flatten := by rw [← q2, cgHead_eq]; simp
  rw [← hse] at hs1
  have hF130 : F130 [.str cgHeadL, .str [35]] = some (.sv (.bool true)) := by rfl
  have hround : rounds (evC E (evF E (N + 1)) (N + 1) b116_0) (N + 1) { tm := [.sv .undef, .sv .undef, .sv .undef, .sv .undef, .sv .nilS, .ptr 0 0] ++ List.replicate 31 (.sv .undef), lz := none, bx := [scanBox s []], df := [] } =
      some (.exit 0, { tm := [.sv .undef, .sv .undef, .sv .undef, .sv .undef, accA 105 (cgRows rs), .ptr 0 0] ++ List.replicate 31 (.sv .undef), lz := none, bx := [scanBox [] []], df := [] }) := by
    rw [show accA 105 (cgRows rs) = accA 105 ([] ++ rs.map fun r => SV.agg (cgVal r)) from rfl, ← he]
    refine rounds_step ?_
    simp at hs1
    generalize (rs.map cgLine).flatten = F at *
    simp [b116_0, List.replicate, hp88, hp90, h130, hs1, h90', hF130, accA]
  simp only [List.replicate, List.cons_append, List.nil_append] at hround
  simp at h87'
  cases hc : cgRows rs with
  | nil => simp only [hc, accA] at hround; simp [c116, List.replicate, hb, hp87, h87', hround, hp128, h128']
  | cons v vs => simp only [hc, accA] at hround; simp [c116, List.replicate, hb, hp87, h87', hround, hp128, h128']

noncomputable def F116 : List SV → Option AV
  | [.sl bs] => match svBytes bs with
    | some s => match cgRead s with
      | some rs => onlyIf (s.length ≤ 40000 ∧ bs = bytesSV s) (some (.sv (.tup [.sl (cgRows rs), .nilI])))
      | none => none
    | none => none
  | _ => none

theorem F116_eq {s : List UInt8} {rs : List RowD} (hr : cgRead s = some rs) (hs : s.length ≤ 40000) : F116 [.sl (bytesSV s)] = some (.sv (.tup [.sl (cgRows rs), .nilI])) := by
  unfold F116
  simp only [svBytes_bytes, hr]
  exact onlyIf_pos ⟨hs, trivial⟩

theorem ev69 (E : Env) (h : E.code 69 = some c69) (h85 : E.pure 85 = some F85) (h99 : E.pure 99 = some F99) (h116 : E.pure 116 = some F116) (s : List UInt8) (rs : List RowD) (hr : cgRead s = some rs) (hs : s.length ≤ 40000) (n : Nat) :
    evP E n 69 [.agg [.str s]] = some (.sv (.tup [.sl (cgRows rs), .nilI])) := by
  unfold evP
  simp only [h]
  have hF := F116_eq hr hs
  have hF99 : F99 [.str s] = some (.sv (.tup [.sl (bytesSV s), .nilI])) := onlyIf_pos (by omega)
  simp [c69, List.replicate, h85, F85, h99, hF99, h116, hF]

noncomputable def F69 : List SV → Option AV
  | [.agg [.str s]] => match cgRead s with
    | some rs => onlyIf (s.length ≤ 40000) (some (.sv (.tup [.sl (cgRows rs), .nilI])))
    | none => none
  | _ => none

end Go.Ev

set_option linter.unusedSimpArgs false
set_option linter.unusedVariables false
namespace Go.Ev
open Go.Proofs

def cgSum (n w : List UInt8) (a b c : Int) : SV := nodeV n 8 false 0 0 0 [] [nodeV [83, 117, 98, 115, 121, 115, 78, 97, 109, 101] 5 false 0 0 0 w [], nodeV [72, 105, 101, 114, 97, 114, 99, 104, 121] 2 false a 0 0 [] [], nodeV [67, 103, 114, 111, 117, 112, 115] 2 false b 0 0 [] [], nodeV [69, 110, 97, 98, 108, 101, 100] 2 false c 0 0 [] []]

theorem ev73 (E : Env) (h : E.code 73 = some c73) (n w : List UInt8) (a b c : Int) (k : Nat) : evP E k 73 [.str n, .agg [.str w, .int .i64 a, .int .i64 b, .int .i64 c]] = some (.sv (cgSum n w a b c)) := by
  unfold evP
  simp only [h]
  simp [c73, List.replicate, cgSum, nodeV]

def F73 : List SV → Option AV
  | [.str n, .agg [.str w, .int .i64 a, .int .i64 b, .int .i64 c]] => some (.sv (cgSum n w a b c))
  | _ => none

theorem ev72 (E : Env) (h : E.code 72 = some c72) (h73 : E.pure 73 = some F73) (w : List UInt8) (a b c : Int) (k : Nat) : evP E k 72 [.agg [.str w, .int .i64 a, .int .i64 b, .int .i64 c]] = some (.sv (cgSum [] w a b c)) := by
  unfold evP
  simp only [h]
  simp [c72, List.replicate, h73, F73, cgSum, nodeV]

def F72 : List SV → Option AV
  | [.agg [.str w, .int .i64 a, .int .i64 b, .int .i64 c]] => some (.sv (cgSum [] w a b c))
  | _ => none

theorem cgOk_val {r : RowD} (h : cgOk r = true) : F72 [.agg (cgVal r)] = some (.sv (cgNode r)) ∧ ∃ a b c d, cgVal r = [a, b, c, d] := by
  obtain ⟨c, cs, x, y, z, e1, e2, e3, e4, e5, hx, hy, hz⟩ := cgOk_spec h
  obtain ⟨name, N, S⟩ := r
  simp only at e4
  subst e4
  exact ⟨rfl, _, _, _, _, rfl⟩

set_option maxHeartbeats 4000000 in
theorem loop71 (E : Env) (cf : CallF) (h72 : E.pure 72 = some F72) (xs : List SV) (m : Nat) (hxs : xs.length < 1000000000) (bx0 : Box) (n : List UInt8) :
    ∀ (rest : List RowD) (pre acc : List SV) (bx : List Box) (k : Nat), xs = pre ++ cgRows rest → (∀ r ∈ rest, cgOk r = true) → acc.length = pre.length → rest.length < k →
      ∃ bx', rounds (evC E cf m b71_0) k { tm := [.sv .undef, .sv .undef, .sv (.fn 72 [] []), .sv .undef, .sv .undef, .sv .undef, .ptr 0 0, .ptr 1 0, .sv .undef, .sv .undef, .sv .undef, .sv .undef, .sv (.sl xs), .sv (.int .i64 xs.length), .sv (.int .i64 pre.length)] ++ List.replicate 13 (.sv .undef), lz := none, bx := bx0 :: nodeBox n 6 false 0 0 0 [] (accC 36 acc) :: bx, df := [] } =
        some (.exit 0, { tm := [.sv .undef, .sv .undef, .sv .undef, .sv .undef, .sv .undef, .sv .undef, .ptr 0 0, .ptr 1 0] ++ List.replicate 20 (.sv .undef), lz := none, bx := bx0 :: nodeBox n 6 false 0 0 0 [] (accC 36 (acc ++ rest.map cgNode)) :: bx', df := [] }) := by
  intro rest
  induction rest with
  | nil =>
    intro pre acc bx k hsp _ _ hk
    obtain ⟨k, rfl⟩ : ∃ k', k = k' + 1 := ⟨k - 1, by omega⟩
    have hlt : ¬ (pre.length < xs.length) := by rw [hsp]; simp [cgRows]
    refine ⟨bx, rounds_out ?_ (by simp)⟩
    simp [b71_0, List.replicate, hlt]
  | cons r rest ih =>
    intro pre acc bx k hsp hr hal hk
    obtain ⟨k, rfl⟩ : ∃ k', k = k' + 1 := ⟨k - 1, by omega⟩
    have hlt : pre.length < xs.length := by rw [hsp]; simp [cgRows]
    have hc : ∀ h : pre.length < xs.length, xs[pre.length]'h = .agg (cgVal r) := by subst hsp; simp [cgRows]
    have hw2 : IntKind.i64.wrap ((pre.length : Int) + 1) = ((pre ++ [SV.agg (cgVal r)]).length : Int) := by rw [IntKind.wrap_i64]; simp; omega
    have hl1 : (acc.length + 1) * 96 ≤ 140737488355328 := by omega
    have hl2 : acc.length + 1 ≤ 140737488355328 := by omega
    obtain ⟨hF, a, b, c, d, hv⟩ := cgOk_val (hr r (by simp))
    obtain ⟨_, _, x, y, z, _, _, _, e4, _⟩ := cgOk_spec (hr r (by simp))
    have hn : ∃ k1 k2, cgNode r = nodeV [] 8 false 0 0 0 [] (k1 :: k2) := by
      obtain ⟨name, N, S⟩ := r
      simp only at e4
      subst e4
      exact ⟨_, _, rfl⟩
    obtain ⟨k1, k2, hn⟩ := hn
    have hbx : ∃ q, Box.live [.sv a, .sv b, .sv c, .sv d] = q := ⟨_, rfl⟩
    obtain ⟨bx', he⟩ := ih (pre ++ [.agg (cgVal r)]) (acc ++ [cgNode r]) (bx ++ [Box.live [.sv a, .sv b, .sv c, .sv d]]) k (by rw [hsp]; simp [cgRows]) (fun q hq => hr q (by simp [hq])) (by simp [hal]) (by simp at hk; omega)
    refine ⟨bx', ?_⟩
    rw [show acc ++ (r :: rest).map cgNode = acc ++ [cgNode r] ++ rest.map cgNode from by simp, ← he]
    refine rounds_step ?_
    have hval : ∃ w p q s, cgVal r = [SV.str w, .int .i64 p, .int .i64 q, .int .i64 s] := by
      obtain ⟨name, N, S⟩ := r
      simp only at e4
      subst e4
      exact ⟨_, _, _, _, rfl⟩
    obtain ⟨w, p, q, s, hval⟩ := hval
    rw [hval] at hv
    simp only [List.cons.injEq, and_true] at hv
    obtain ⟨rfl, rfl, rfl, rfl⟩ := hv
    rw [hval] at hc hF hw2 ⊢
    rw [hn] at hF ⊢
    simp only [nodeV] at hF ⊢
    cases acc with
    | nil => simp [b71_0, List.replicate, hlt, hc, hw2, h72, hF, nodeBox, accC]
    | cons y0 ys =>
      simp only [List.length_cons] at hl1 hl2
      simp [b71_0, List.replicate, hlt, hc, hw2, h72, hF, nodeBox, accC, hl1, hl2]

theorem ev71 (E : Env) (h : E.code 71 = some c71) (h72 : E.pure 72 = some F72) (rs : List RowD) (hr : ∀ r ∈ rs, cgOk r = true) (hl : rs.length < 1000000000) (k : Nat) (hk : rs.length < k) :
    evP E k 71 [.str [], .sl (cgRows rs), .fn 72 [] []] = some (.sv (cgTree rs)) := by
  unfold evP
  simp only [h]
  obtain ⟨bx', he⟩ := loop71 E (evF E k) h72 (cgRows rs) k (by simpa [cgRows] using hl) zeroBox [] rs [] [] [] k rfl hr rfl hk
  simp only [accC, List.replicate, List.cons_append, List.nil_append, List.length_nil, Int.ofNat_zero, Int.natCast_zero, nodeBox, zeroBox] at he
  unfold cgTree
  cases hc : rs.map cgNode with
  | nil => simp only [hc, accC] at he; simp [c71, List.replicate, he, nodeV]
  | cons v vs => simp only [hc, accC] at he; simp [c71, List.replicate, he, nodeV]

end Go.Ev

set_option linter.unusedSimpArgs false
set_option linter.unusedVariables false
namespace Go.Ev
open Go.Proofs

def uncg : SV → RowD
  | .agg (.str w :: ns) => ⟨w, ns.map unint, []⟩
  | _ => ⟨[], [], []⟩

theorem uncgs : ∀ {rs : List RowD}, (∀ r ∈ rs, cgOk r = true) → (cgRows rs).map uncg = rs
  | [], _ => rfl
  | r :: rs, h => by
    have ih := uncgs (rs := rs) (fun q hq => h q (by simp [hq]))
    simp only [cgRows, List.map_cons] at ih ⊢
    rw [ih]
    obtain ⟨_, _, x, y, z, _, _, _, e4, e5, _⟩ := cgOk_spec (h r (by simp))
    obtain ⟨name, N, S⟩ := r
    simp only at e4 e5
    subst e4; subst e5
    simp [cgVal, uncg, unint]

noncomputable def F71 : List SV → Option AV
  | [.str [], .sl l, .fn 72 [] []] => onlyIf (l = cgRows (l.map uncg) ∧ (∀ r ∈ l.map uncg, cgOk r = true) ∧ l.length < 1000000000) (some (.sv (cgTree (l.map uncg))))
  | _ => none

theorem F71_eq {rs : List RowD} (h : ∀ r ∈ rs, cgOk r = true) (hl : rs.length < 1000000000) : F71 [.str [], .sl (cgRows rs), .fn 72 [] []] = some (.sv (cgTree rs)) := by
  unfold F71
  simp only [uncgs h]
  exact onlyIf_pos ⟨trivial, h, by simpa [cgRows] using hl⟩

theorem ev70 (E : Env) (h : E.code 70 = some c70) (h71 : E.pure 71 = some F71) (rs : List RowD) (hr : ∀ r ∈ rs, cgOk r = true) (hl : rs.length < 1000000000) (k : Nat) :
    evP E k 70 [.sl (cgRows rs)] = some (.sv (cgTree rs)) := by
  unfold evP
  simp only [h]
  have hF := F71_eq hr hl
  unfold cgTree nodeV at hF ⊢
  simp [c70, List.replicate, h71, hF]

noncomputable def F70 : List SV → Option AV
  | [.sl l] => onlyIf (l = cgRows (l.map uncg) ∧ (∀ r ∈ l.map uncg, cgOk r = true) ∧ l.length < 1000000000) (some (.sv (cgTree (l.map uncg))))
  | _ => none

theorem F70_eq {rs : List RowD} (h : ∀ r ∈ rs, cgOk r = true) (hl : rs.length < 1000000000) : F70 [.sl (cgRows rs)] = some (.sv (cgTree rs)) := by
  unfold F70
  simp only [uncgs h]
  exact onlyIf_pos ⟨trivial, h, by simpa [cgRows] using hl⟩

theorem F69_eq {s : List UInt8} {rs : List RowD} (hr : cgRead s = some rs) (hs : s.length ≤ 40000) : F69 [.agg [.str s]] = some (.sv (.tup [.sl (cgRows rs), .nilI])) := by
  unfold F69
  simp only [hr]
  exact onlyIf_pos hs

theorem ev68 (E : Env) (h : E.code 68 = some c68) (hq : E.quiet 115 = true) (h69 : E.pure 69 = some F69) (h70 : E.pure 70 = some F70) (s : List UInt8) (rs : List RowD) (hr : cgRead s = some rs) (hs : s.length ≤ 40000) (k : Nat) :
    evP E k 68 [.fn 69 [.agg [.str s]] [], .fn 70 [] []] = some (.sv (.tup [cgTree rs, .int .i64 0])) := by
  unfold evP
  simp only [h]
  have hF := F69_eq hr hs
  have hl := (cgRead_len hr).1
  have hF2 := F70_eq (cgRead_spec hr).1 (by omega)
  unfold cgTree nodeV at hF2 ⊢
  simp [c68, List.replicate, h69, hF, h70, hF2, hq]

noncomputable def F68 : List SV → Option AV
  | [.fn 69 [.agg [.str s]] [], .fn 70 [] []] => match cgRead s with
    | some rs => onlyIf (s.length ≤ 40000) (some (.sv (.tup [cgTree rs, .int .i64 0])))
    | none => none
  | _ => none

theorem F68_eq {s : List UInt8} {rs : List RowD} (hr : cgRead s = some rs) (hs : s.length ≤ 40000) : F68 [.fn 69 [.agg [.str s]] [], .fn 70 [] []] = some (.sv (.tup [cgTree rs, .int .i64 0])) := by
  unfold F68
  simp only [hr]
  exact onlyIf_pos hs

theorem ev24 (E : Env) (h : E.code 24 = some c24) (h38 : E.pure 38 = some F38) (h68 : E.pure 68 = some F68) (s : List UInt8) (rs : List RowD) (hr : cgRead s = some rs) (hs : s.length ≤ 40000) (k : Nat) :
    evP E k 24 [.str s] = some (.sv (.tup [cgTree rs, .int .i64 0])) := by
  unfold evP
  simp only [h]
  have hF := F68_eq hr hs
  unfold cgTree nodeV at hF ⊢
  simp [c24, List.replicate, h38, F38, h68, hF]

noncomputable def F24 : List SV → Option AV
  | [.str s] => match cgRead s with
    | some rs => onlyIf (s.length ≤ 40000) (some (.sv (.tup [cgTree rs, .int .i64 0])))
    | none => none
  | _ => none

theorem F24_eq {s : List UInt8} {rs : List RowD} (hr : cgRead s = some rs) (hs : s.length ≤ 40000) : F24 [.str s] = some (.sv (.tup [cgTree rs, .int .i64 0])) := by
  unfold F24
  simp only [hr]
  exact onlyIf_pos hs

theorem cgRead_fit {s : List UInt8} {rs : List RowD} (hr : cgRead s = some rs) (hs : s.length ≤ 40000) : rowsFit rs ∧ rs.length ≤ 40000 := by
  obtain ⟨l1, l2, l3⟩ := cgRead_len hr
  unfold cgRead at hr
  split at hr
  · simp at hr
  · rename_i f ls hl
    split at hr
    · rename_i rs' htab
      split at hr <;> simp only [Option.some.injEq, reduceCtorEq] at hr
      subst hr
      obtain ⟨_, k1, k2⟩ := linesV_shape s
      rw [hl] at k1 k2
      obtain ⟨q1, q2, q3⟩ := tabV_fit (B := 40000) (by omega) htab (fun x hx => by have := k2 x (by simp [hx]); omega)
      refine ⟨⟨by omega, q2, ?_⟩, by omega⟩
      have : rs'.length * (40000 + 64) ≤ 40000 * 40064 := Nat.mul_le_mul (by omega) (by omega)
      omega
    · simp at hr

end Go.Ev

set_option linter.unusedSimpArgs false
set_option linter.unusedVariables false
namespace Go.Ev
open Go.Proofs

noncomputable def F27 : List SV → Option AV
  | [v] => onlyIf (IsNode v) (some (.sv v))
  | _ => none

noncomputable def F26 : List SV → Option AV
  | [v, w] => onlyIf (IsNode v ∧ v = w) (some (.sv (.bool true)))
  | _ => none

def F25 : List SV → Option AV
  | [] => some (.sv (.bool true))
  | _ => none

theorem size_kid {kids : List SV} {v : SV} (h : v ∈ kids) (name : List UInt8) (kind : Int) (b : Bool) (i u : Int) (f : Nat) (s : List UInt8) : SizeOf.sizeOf v < SizeOf.sizeOf (nodeV name kind b i u f s kids) := by
  have := List.sizeOf_lt_of_mem h
  simp [nodeV]
  omega

noncomputable def size27 : List SV → Nat
  | v :: _ => SizeOf.sizeOf v
  | [] => 0

theorem pure27 {P : Program} {E : Env} (hm : P.follows .mixedOrders = true) (hT : CodeT P E) (hQ : QuietOK P E) (hP : PureOK P E) (h : E.code 27 = some c27) : PureFn P E 27 F27 := by
  refine PureFn.of_rec size27 hm hT hQ hP fun m vs r hF hs => ?_
  match vs, hF with
  | [v], hF =>
    obtain ⟨hn, hr⟩ := onlyIf_some hF
    simp only [Option.some.injEq] at hr
    subst hr
    cases hn with
    | mk name kind b i u f s kids hl hk =>
      refine ⟨kids.length + 1, _, ev27 (E.add 27 (fun us => if size27 us < m then F27 us else none)) h (fun us => if size27 us < m then F27 us else none) (by simp [Env.add]) name kind b i u f s kids hl (fun v hv => ⟨hk v hv, ?_⟩) _ (by omega), .inl rfl⟩
      have := size_kid hv name kind b i u f s
      have h3 : size27 [v] < m := by simp only [size27] at hs ⊢; omega
      show (if size27 [v] < m then F27 [v] else none) = _
      rw [if_pos h3]
      exact onlyIf_pos (hk v hv)

theorem pure26 {P : Program} {E : Env} (hm : P.follows .mixedOrders = true) (hT : CodeT P E) (hQ : QuietOK P E) (hP : PureOK P E) (h : E.code 26 = some c26) (h75 : E.pure 75 = some F75) : PureFn P E 26 F26 := by
  refine PureFn.of_rec size27 hm hT hQ hP fun m vs r hF hs => ?_
  match vs, hF with
  | [v, w], hF =>
    obtain ⟨⟨hn, rfl⟩, hr⟩ := onlyIf_some hF
    simp only [Option.some.injEq] at hr
    subst hr
    cases hn with
    | mk name kind b i u f s kids hl hk =>
      refine ⟨kids.length + 1, _, ev26 (E.add 26 (fun us => if size27 us < m then F26 us else none)) h (fun us => if size27 us < m then F26 us else none) (by simp [Env.add]) (by simp [Env.add, h75]) name kind b i u f s kids hl (fun v hv => ⟨hk v hv, ?_⟩) _ (by omega), .inl rfl⟩
      have := size_kid hv name kind b i u f s
      have h3 : size27 [v, v] < m := by simp only [size27] at hs ⊢; omega
      show (if size27 [v, v] < m then F26 [v, v] else none) = _
      rw [if_pos h3]
      exact onlyIf_pos ⟨hk v hv, rfl⟩

theorem ev9_long (E : Env) (h : E.code 9 = some c9) (w t d : Nat) (s : List UInt8) (hs : 40000 < s.length) (n : Nat) : evP E n 9 [.str s, .fn w [] [], .fn t [] [], .fn d [] []] = some (.sv (.bool true)) := by
  unfold evP
  simp only [h]
  have e : (40000 : Int) < (s.length : Int) := by omega
  simp [c9, List.replicate, e]

theorem ev9_open (E : Env) (h : E.code 9 = some c9) (w t d : Nat) (Fw : List SV → Option AV) (hw : E.pure w = some Fw) (h25 : E.pure 25 = some F25) (s : List UInt8) (hs : s.length ≤ 40000)
    (hF : Fw [.str s] = some (.sv (.tup [.sl [], .bool false, .int .i64 2]))) (n : Nat) : evP E n 9 [.str s, .fn w [] [], .fn t [] [], .fn d [] []] = some (.sv (.bool true)) := by
  unfold evP
  simp only [h]
  have e : ¬ (40000 : Int) < (s.length : Int) := by omega
  simp [c9, List.replicate, e, hw, hF, h25, F25]

set_option maxHeartbeats 1000000 in
theorem ev9_yes (E : Env) (h : E.code 9 = some c9) (w t d : Nat) (Fw Ft Fd : List SV → Option AV) (hw : E.pure w = some Fw) (ht : E.pure t = some Ft) (hd : E.pure d = some Fd) (h25 : E.pure 25 = some F25) (h26 : E.pure 26 = some F26) (h27 : E.pure 27 = some F27) (s : List UInt8) (hs : s.length ≤ 40000) (rows : List SV) (T : SV) (hT : IsNode T)
    (hFw : Fw [.str s] = some (.sv (.tup [.sl rows, .bool true, .int .i64 1]))) (hFt : Ft [.sl rows] = some (.sv (.tup [T, .int .i64 1]))) (hFd : Fd [.str s] = some (.sv (.tup [T, .int .i64 0]))) (n : Nat) :
    evP E n 9 [.str s, .fn w [] [], .fn t [] [], .fn d [] []] = some (.sv (.bool true)) := by
  unfold evP
  simp only [h]
  have e : ¬ (40000 : Int) < (s.length : Int) := by omega
  have hF27 : F27 [T] = some (.sv T) := onlyIf_pos hT
  have hF26 : F26 [T, T] = some (.sv (.bool true)) := onlyIf_pos ⟨hT, rfl⟩
  cases hT with
  | mk name kind b i u f s0 kids hl hk =>
    simp only [nodeV] at hFt hFd hF27 hF26
    simp [c9, List.replicate, e, hw, hFw, hd, hFd, ht, hFt, h27, hF27, h26, hF26, h25, F25]

theorem ev8_long (E : Env) (h : E.code 8 = some c8) (s : List UInt8) (hs : 2147483647 < s.length) (n : Nat) : evP E n 8 [.str s] = some (.sv (.bool true)) := by
  unfold evP
  simp only [h]
  have e : (2147483647 : Int) < (s.length : Int) := by omega
  simp [c8, List.replicate, e]

theorem ev8_call (E : Env) (h : E.code 8 = some c8) (F9 : List SV → Option AV) (h9 : E.pure 9 = some F9) (s : List UInt8) (hF : F9 [.str s, .fn 22 [] [], .fn 23 [] [], .fn 24 [] []] = some (.sv (.bool true))) (n : Nat) : evP E n 8 [.str s] = some (.sv (.bool true)) := by
  unfold evP
  simp only [h]
  by_cases hs : 2147483647 < s.length
  · have e : (2147483647 : Int) < (s.length : Int) := by omega
    simp [c8, List.replicate, e]
  · have e : ¬ (2147483647 : Int) < (s.length : Int) := by omega
    simp [c8, List.replicate, e, h9, hF]

/-! ### The rows of cgroups -/

theorem cgTree_node {rs : List RowD} (h : ∀ r ∈ rs, cgOk r = true) (hl : rs.length < 1000000000) : IsNode (cgTree rs) := by
  refine .mk _ _ _ _ _ _ _ _ (by simpa using hl) fun k hk => ?_
  obtain ⟨r, hr, rfl⟩ := List.mem_map.1 hk
  obtain ⟨_, _, x, y, z, _, _, _, e4, _⟩ := cgOk_spec (h r hr)
  obtain ⟨name, N, S⟩ := r
  simp only at e4
  subst e4
  refine .mk _ _ _ _ _ _ _ _ (by simp) fun k hk => ?_
  simp only [List.mem_cons, List.not_mem_nil, or_false] at hk
  rcases hk with rfl | rfl | rfl | rfl <;> exact .mk _ _ _ _ _ _ _ _ (by simp) (by simp)

noncomputable def F23 : List SV → Option AV
  | [.sl l] => onlyIf (l = rowsSV (l.map unrow) ∧ rowsFit (l.map unrow) ∧ l.length < 1000000000 ∧ (l.map unrow).all cgOk = true) (some (.sv (.tup [cgTree (l.map unrow), .int .i64 1])))
  | _ => none

theorem F23_eq (l : List RowD) (h : rowsFit l) (hl : l.length < 1000000000) (ho : l.all cgOk = true) : F23 [.sl (rowsSV l)] = some (.sv (.tup [cgTree l, .int .i64 1])) := by
  unfold F23
  simp only [unrows]
  exact onlyIf_pos ⟨trivial, h, by simpa [rowsSV] using hl, ho⟩

theorem F22_eq (s : List UInt8) (hs : s.length ≤ 40000) : F22 [.str s] = some (.sv (.tup (match cgRead s with | some rs => [.sl (rowsSV rs), .bool true, .int .i64 1] | none => [.sl [], .bool false, .int .i64 2]))) := onlyIf_pos hs

theorem ev9_cg (E : Env) (h : E.code 9 = some c9) (h22 : E.pure 22 = some F22) (h23 : E.pure 23 = some F23) (h24 : E.pure 24 = some F24) (h25 : E.pure 25 = some F25) (h26 : E.pure 26 = some F26) (h27 : E.pure 27 = some F27) (s : List UInt8) (n : Nat) :
    evP E n 9 [.str s, .fn 22 [] [], .fn 23 [] [], .fn 24 [] []] = some (.sv (.bool true)) := by
  by_cases hs : 40000 < s.length
  · exact ev9_long E h 22 23 24 s hs n
  · have hF := F22_eq s (by omega)
    cases hr : cgRead s with
    | none => rw [hr] at hF; exact ev9_open E h 22 23 24 F22 h22 h25 s (by omega) hF n
    | some rs =>
      rw [hr] at hF
      obtain ⟨f1, f2⟩ := cgRead_fit hr (by omega)
      have hok := (cgRead_spec hr).1
      exact ev9_yes E h 22 23 24 F22 F23 F24 h22 h23 h24 h25 h26 h27 s (by omega) _ _ (cgTree_node hok (by omega)) hF (F23_eq rs f1 (by omega) (List.all_eq_true.2 hok)) (F24_eq hr (by omega)) n

def F9cg : List SV → Option AV
  | [.str s, .fn 22 [] [], .fn 23 [] [], .fn 24 [] []] => some (.sv (.bool true))
  | _ => none

def F8 : List SV → Option AV
  | [.str s] => some (.sv (.bool true))
  | _ => none

end Go.Ev
