/- Sockets: the door, whole. -/
/- Sockets: the laws. -/
/- Entries of sockets. -/
import Derived.Test.YtnpkdihdpgfemaaGreatDoorLA
import Derived.Test.YtnpkdihdpgfemaaGreatDoorKF
import Derived.Test.YtnpkdihdpgfemaaGreatDoorXC
import Derived.Test.YtnpkdihdpgfemaaGreatDoorNA
import Derived.Test.YtnpkdihdpgfemaaGreatDoorPA
import Derived.Test.YtnpkdihdpgfemaaGreatDoorKB
set_option linter.unusedSimpArgs false
set_option linter.unusedVariables false
namespace Go.Ev
open Go.Proofs

def st1144 (d : Bool) (s t : List UInt8) (acc : List SV) : SA := { nt := 53, tm := [(10, .ptr 0 0), (8, accA 141 acc), (1, .sv (.bool d))], lz := none, bx := [scanBox s t], df := [89] }

theorem skTab_cons {d : Bool} {s : List UInt8} {rs : List RowD} (h : skTabV d (lineG [] s) = some rs) : (s = [] ∧ rs = []) ∨ ∃ line rest r rs', (∀ c ∈ line, c.toNat ≠ 10) ∧ ((s = line ++ 10 :: rest) ∨ (s = line ∧ rest = [] ∧ line ≠ [])) ∧ skLineV d (fieldsL line) = some r ∧ rs = r :: rs' ∧ skTabV d (lineG [] rest) = some rs' := by
  rcases line_cases s with rfl | ⟨line, rest, h1, h2, h3⟩
  · left
    simp only [lineG, if_true, skTabV, Option.some.injEq] at h
    exact ⟨rfl, h.symm⟩
  · right
    rw [h2] at h
    simp only [skTabV] at h
    cases hv : skLineV d (fieldsL line) with
    | none => rw [hv] at h; simp at h
    | some r =>
      rw [hv] at h
      cases ht : skTabV d (lineG [] rest) with
      | none => rw [ht] at h; simp at h
      | some q =>
        rw [ht] at h
        simp only [Option.some.injEq] at h
        exact ⟨line, rest, r, q, h1, h3, hv, h.symm, ht⟩

set_option maxHeartbeats 2000000 in
theorem loop1144 (E : Env) (N m : Nat) (h88 : E.code 91 = some c88) (h90 : E.code 93 = some c90) (h127 : E.pure 92 = some F127) (h59 : Has E 159 S1159) (hp88 : E.pure 91 = none) (hp90 : E.pure 93 = none) (d : Bool) :
    ∀ (rs : List RowD) (s t : List UInt8) (acc : List SV) (k : Nat), skTabV d (lineG [] s) = some rs → (∀ c ∈ s, plainC c = true) → (∀ r ∈ rs, skOk d r = true) → s.length ≤ 40000 → s.length < N → acc.length + rs.length < 1000000000 → rs.length < k →
      roundsA (evCA E (evF E (N + 1)) m b1144_0) k (st1144 d s t acc) =
        some (.exit 0, { nt := 53, tm := [(10, .ptr 0 0), (8, accA 141 (acc ++ skVals d rs))], lz := none, bx := [scanBox [] []], df := [89] }) := by
  obtain ⟨F, hp, hF⟩ := h59
  intro rs
  induction rs with
  | nil =>
    intro s t acc k hn hpl _ hl hN ha hk
    obtain ⟨k, rfl⟩ : ∃ k', k = k' + 1 := ⟨k - 1, by omega⟩
    rcases skTab_cons hn with ⟨rfl, _⟩ | ⟨line, rest, r, rs', _, _, _, e, _⟩
    · have hs := scan88e E h88 0 [scanBox [] t] t rfl N
      simp only [List.length_nil, List.set_cons_zero] at hs
      refine roundsA_out ?_ (by simp)
      simp [b1144_0, st1144, hp88, hs, skVals]
    · cases e
  | cons r rs ih =>
    intro s t acc k hn hpl hok hl hN ha hk
    obtain ⟨k, rfl⟩ : ∃ k', k = k' + 1 := ⟨k - 1, by omega⟩
    rcases skTab_cons hn with ⟨_, e⟩ | ⟨line, rest, r', rs', h1, h3, hv, e, hn'⟩
    · cases e
    · simp only [List.cons.injEq] at e
      obtain ⟨rfl, rfl⟩ := e
      have hll : line.length ≤ s.length ∧ rest.length ≤ s.length ∧ (∀ c ∈ line, plainC c = true) ∧ (∀ c ∈ rest, plainC c = true) := by
        rcases h3 with rfl | ⟨rfl, rfl, _⟩
        · refine ⟨by simp, by simp; omega, fun c hc => hpl c (by simp [hc]), fun c hc => hpl c (by simp [hc])⟩
        · exact ⟨by omega, by simp, hpl, by simp⟩
      obtain ⟨l1, l2, l3, l4⟩ := hll
      have hsc := scanG E h88 s t line rest h1 h3 (by omega) (fun c hc => (plain_lt (hpl c hc)).2) N hN
      have htx := evF90 E h90 N 0 [scanBox rest line] rest line rfl
      have hF1 : F127 [.str line] = some (.sv (.sl (strs (fieldsL line)))) := by
        have := F127_eq line (by omega) (fun c hc => (plain_lt (l3 c hc)).1)
        rw [words_fields (fun c hc => ⟨l3 c hc, h1 c hc⟩)] at this
        exact this
      have hF2 := hF d (fieldsL line) r hv (hok r (by simp)) (fun x hx => by
        obtain ⟨_, _, k2⟩ := fieldsV_shape line
        have := k2 x hx; omega)
      have hl1 : (acc.length + 1) * 8 ≤ 140737488355328 := by simp at ha; omega
      have hl2 : acc.length + 1 ≤ 140737488355328 := by simp at ha; omega
      have he := ih rest line (acc ++ [.ref (skCells d r)]) k hn' l4 (fun q hq => hok q (by simp [hq])) (by omega) (by omega) (by simp at ha ⊢; omega) (by simp at hk; omega)
      have hst : evCA E (evF E (N + 1)) m b1144_0 (st1144 d s t acc) = some (.normal, st1144 d rest line (acc ++ [.ref (skCells d r)])) := by
        generalize strs (fieldsL line) = fl at *
        generalize skCells d r = cs at *
        cases acc with
        | nil => simp [b1144_0, st1144, hp88, hp90, hsc, htx, h127, hF1, hp, hF2, accA]
        | cons y ys =>
          simp only [List.length_cons] at hl1 hl2
          simp [b1144_0, st1144, hp88, hp90, hsc, htx, h127, hF1, hp, hF2, accA, hl1, hl2]
      rw [roundsA_step hst, he]
      simp [skVals]

theorem skRead_spec {d : Bool} {s : List UInt8} {rs : List RowD} (h : skRead d s = some rs) : ∃ rest, s = skHeadL ++ 10 :: rest ∧ (∀ c ∈ s, plainC c = true) ∧ skTabV d (linesL rest) = some rs ∧ ∀ r ∈ rs, skOk d r = true := by
  unfold skRead at h
  by_cases hc : s.all plainC = true ∧ s.take skHead.length = skHead
  rotate_left
  · rw [if_neg hc] at h; cases h
  rw [if_pos hc] at h
  cases hv : skTabV d (linesL (s.drop skHead.length)) with
  | none => rw [hv] at h; cases h
  | some q =>
    rw [hv] at h
    simp only at h
    by_cases ha : q.all (skOk d) = true
    rotate_left
    · rw [if_neg ha] at h; cases h
    rw [if_pos ha] at h
    simp only [Option.some.injEq] at h
    subst h
    refine ⟨s.drop skHead.length, ?_, List.all_eq_true.1 hc.1, hv, List.all_eq_true.1 ha⟩
    conv => lhs; rw [← List.take_append_drop skHead.length s, hc.2]
    simp [skHead]

def SSock (F : List SV → Option AV) : Prop := ∀ (d : Bool) (s : List UInt8) (rs : List RowD), skRead d s = some rs → s.length ≤ 40000 → F [.str s, .bool d] = some (.sv (.tup [.sl (skVals d rs), .nilI]))

set_option maxHeartbeats 2000000 in
theorem ev1144 (E : Env) (h : E.code 144 = some c1144) (h87 : E.code 90 = some c87) (h88 : E.code 91 = some c88) (h90 : E.code 93 = some c90) (h128 : E.code 96 = some c128) (hq : E.quiet 89 = true) (h84 : E.pure 87 = some F84) (h127 : E.pure 92 = some F127) (h59 : Has E 159 S1159) (hp87 : E.pure 90 = none) (hp88 : E.pure 91 = none) (hp90 : E.pure 93 = none) (hp128 : E.pure 96 = none) : SSock (autoF E 144) := by
  intro d s rs hr hs
  obtain ⟨rest, g1, g2, g3, g4⟩ := skRead_spec hr
  have hrl : rest.length ≤ 40000 ∧ rest.length < s.length := by rw [g1] at hs ⊢; simp at hs ⊢; omega
  obtain ⟨f1, f2⟩ := skRows_fit g3 hrl.1
  have hlen : rs.length ≤ rest.length + 1 := by
    obtain ⟨_, k1, k2⟩ := linesV_shape rest
    obtain ⟨g1, g2⟩ := skTabV_fit (B := 40000) (by omega) g3 (fun x hx => by have := k2 x hx; omega)
    omega
  rw [linesL_eq] at g3
  have hpr : ∀ c ∈ rest, plainC c = true := fun c hc => g2 c (by rw [g1]; simp [hc])
  have e128 := evF128 E h128 (s.length + 1) 0 [scanBox [] []] [] [] rfl
  have e87 := evF87 E h87 (s.length + 1) [] s
  have hsc := scanG E h88 s [] skHeadL rest (by decide) (.inl g1) (by omega) (fun c hc => (plain_lt (g2 c hc)).2) (s.length + 1) (by omega)
  have hl := loop1144 E (s.length + 1) (s.length + 2) h88 h90 h127 h59 hp88 hp90 d rs rest skHeadL [] (s.length + 2) g3 hpr g4 hrl.1 (by omega) (by simp; omega) (by omega)
  clear g1 g2 g3 hpr hr
  refine autoA_sv (n := s.length + 2) ?_ rfl
  unfold evPA
  simp only [h]
  generalize skVals d rs = vs at *
  generalize skHeadL = hd at *
  simp only [List.length_nil, List.nil_append] at e87
  simp only [List.nil_append, st1144, show accA 141 [] = .sv .nilS from rfl] at hl
  cases vs with
  | nil =>
    simp only [accA] at hl
    simp only [scanBox] at *
    simp [c1144, h84, F84, hq, hp87, hp88, hp128, e87, hsc, hl, e128]
  | cons y ys =>
    simp only [accA] at hl
    simp only [scanBox] at *
    simp [c1144, h84, F84, hq, hp87, hp88, hp128, e87, hsc, hl, e128]

def SNew_tcp (F : List SV → Option AV) : Prop := ∀ (s : List UInt8) (rs : List RowD), skRead false s = some rs → s.length ≤ 40000 → F [.str s] = some (.sv (.tup [.sl (skVals false rs), .nilI]))

theorem ev1118 (E : Env) (h : E.code 118 = some c1118) (h44 : Has E 144 SSock) : SNew_tcp (autoF E 118) := by
  obtain ⟨F, hp, hF⟩ := h44
  intro s rs hr hs
  have hF1 := hF false s rs hr hs
  refine autoA_sv (n := 1) ?_ rfl
  unfold evPA
  simp only [h]
  generalize skVals false rs = vs at *
  simp [c1118, hp, hF1]

def SFs_tcp (F : List SV → Option AV) : Prop := ∀ (s : List UInt8) (rs : List RowD), skRead false s = some rs → s.length ≤ 40000 → F [.agg [.str s]] = some (.sv (.tup [.sl (skVals false rs), .nilI]))

theorem ev1072 (E : Env) (h : E.code 72 = some c1072) (h85 : E.pure 88 = some F85) (hN : Has E 118 SNew_tcp) : SFs_tcp (autoF E 72) := by
  obtain ⟨F, hp, hF⟩ := hN
  intro s rs hr hs
  have hF1 := hF s rs hr hs
  refine autoA_sv (n := 1) ?_ rfl
  unfold evPA
  simp only [h]
  generalize skVals false rs = vs at *
  simp [c1072, h85, F85, hp, hF1]

def STr_tcp (F : List SV → Option AV) : Prop := ∀ (s : List UInt8) (rs : List RowD), skRead false s = some rs → s.length ≤ 40000 → F [.fn 72 [.agg [.str s]] [], .fn 73 [] []] = some (.sv (.tup [skTree false rs, .int .i64 0]))

theorem ev1071 (E : Env) (h : E.code 71 = some c1071) (hq : E.quiet 117 = true) (hS : Has E 72 SFs_tcp) (hC : Has E 73 S1073) : STr_tcp (autoF E 71) := by
  obtain ⟨F, hp, hF⟩ := hS
  obtain ⟨G, hg, hG⟩ := hC
  intro s rs hr hs
  have hF1 := hF s rs hr hs
  obtain ⟨rest, g1, _, g3, g4⟩ := skRead_spec hr
  obtain ⟨f1, f2⟩ := skRows_fit g3 (by rw [g1] at hs; simp at hs; omega)
  have hG1 := hG rs (by omega) g4
  clear g1 g3 g4 hr hF hG
  refine autoA_sv (n := 1) ?_ rfl
  unfold evPA
  simp only [h]
  unfold skTree nodeV at *
  generalize rs.map (skNode false) = kids at *
  generalize skVals false rs = vs at *
  simp [c1071, hp, hF1, hg, hG1, hq]

def SDoor_tcp (F : List SV → Option AV) : Prop := ∀ (s : List UInt8) (rs : List RowD), skRead false s = some rs → s.length ≤ 40000 → F [.str s] = some (.sv (.tup [skTree false rs, .int .i64 0]))

theorem ev1029 (E : Env) (h : E.code 29 = some c1029) (h38 : E.pure 45 = some F38) (hT : Has E 71 STr_tcp) : SDoor_tcp (autoF E 29) := by
  obtain ⟨F, hp, hF⟩ := hT
  intro s rs hr hs
  have hF1 := hF s rs hr hs
  refine autoA_sv (n := 1) ?_ rfl
  unfold evPA
  simp only [h]
  unfold skTree nodeV at *
  generalize rs.map (skNode false) = kids at *
  simp [c1029, h38, F38, hp, hF1]

def SNew_udp (F : List SV → Option AV) : Prop := ∀ (s : List UInt8) (rs : List RowD), skRead true s = some rs → s.length ≤ 40000 → F [.str s] = some (.sv (.tup [.sl (skVals true rs), .nilI]))

theorem ev1128 (E : Env) (h : E.code 128 = some c1128) (h44 : Has E 144 SSock) : SNew_udp (autoF E 128) := by
  obtain ⟨F, hp, hF⟩ := h44
  intro s rs hr hs
  have hF1 := hF true s rs hr hs
  refine autoA_sv (n := 1) ?_ rfl
  unfold evPA
  simp only [h]
  generalize skVals true rs = vs at *
  simp [c1128, hp, hF1]

def SFs_udp (F : List SV → Option AV) : Prop := ∀ (s : List UInt8) (rs : List RowD), skRead true s = some rs → s.length ≤ 40000 → F [.agg [.str s]] = some (.sv (.tup [.sl (skVals true rs), .nilI]))

theorem ev1077 (E : Env) (h : E.code 77 = some c1077) (h85 : E.pure 88 = some F85) (hN : Has E 128 SNew_udp) : SFs_udp (autoF E 77) := by
  obtain ⟨F, hp, hF⟩ := hN
  intro s rs hr hs
  have hF1 := hF s rs hr hs
  refine autoA_sv (n := 1) ?_ rfl
  unfold evPA
  simp only [h]
  generalize skVals true rs = vs at *
  simp [c1077, h85, F85, hp, hF1]

def STr_udp (F : List SV → Option AV) : Prop := ∀ (s : List UInt8) (rs : List RowD), skRead true s = some rs → s.length ≤ 40000 → F [.fn 77 [.agg [.str s]] [], .fn 78 [] []] = some (.sv (.tup [skTree true rs, .int .i64 0]))

theorem ev1076 (E : Env) (h : E.code 76 = some c1076) (hq : E.quiet 127 = true) (hS : Has E 77 SFs_udp) (hC : Has E 78 S1078) : STr_udp (autoF E 76) := by
  obtain ⟨F, hp, hF⟩ := hS
  obtain ⟨G, hg, hG⟩ := hC
  intro s rs hr hs
  have hF1 := hF s rs hr hs
  obtain ⟨rest, g1, _, g3, g4⟩ := skRead_spec hr
  obtain ⟨f1, f2⟩ := skRows_fit g3 (by rw [g1] at hs; simp at hs; omega)
  have hG1 := hG rs (by omega) g4
  clear g1 g3 g4 hr hF hG
  refine autoA_sv (n := 1) ?_ rfl
  unfold evPA
  simp only [h]
  unfold skTree nodeV at *
  generalize rs.map (skNode true) = kids at *
  generalize skVals true rs = vs at *
  simp [c1076, hp, hF1, hg, hG1, hq]

def SDoor_udp (F : List SV → Option AV) : Prop := ∀ (s : List UInt8) (rs : List RowD), skRead true s = some rs → s.length ≤ 40000 → F [.str s] = some (.sv (.tup [skTree true rs, .int .i64 0]))

theorem ev1033 (E : Env) (h : E.code 33 = some c1033) (h38 : E.pure 45 = some F38) (hT : Has E 76 STr_udp) : SDoor_udp (autoF E 33) := by
  obtain ⟨F, hp, hF⟩ := hT
  intro s rs hr hs
  have hF1 := hF s rs hr hs
  refine autoA_sv (n := 1) ?_ rfl
  unfold evPA
  simp only [h]
  unfold skTree nodeV at *
  generalize rs.map (skNode true) = kids at *
  simp [c1033, h38, F38, hp, hF1]

end Go.Ev

set_option linter.unusedSimpArgs false
set_option linter.unusedVariables false
namespace Go.Ev
open Go.Proofs

theorem skRead_ok {d : Bool} {s : List UInt8} {rs : List RowD} (h : skRead d s = some rs) : ∀ r ∈ rs, skOk d r = true := (skRead_spec h).choose_spec.2.2.2

theorem ev9_tcp (E : Env) (h : E.code 22 = some c9) (hR : Has E 30 (SRead false)) (hT : Has E 28 (STree false)) (hD : Has E 29 SDoor_tcp) (h25 : E.pure 36 = some F25) (h26 : E.pure 37 = some F26) (h27 : E.pure 38 = some F27) (s : List UInt8) (n : Nat) :
    evP E n 22 [.str s, .fn 30 [] [], .fn 28 [] [], .fn 29 [] []] = some (.sv (.bool true)) := by
  obtain ⟨FR, hpR, hFR⟩ := hR
  obtain ⟨FT, hpT, hFT⟩ := hT
  obtain ⟨FD, hpD, hFD⟩ := hD
  by_cases hs : 40000 < s.length
  · exact ev9_long E h _ _ _ s hs n
  · have hr1 := hFR s (by omega)
    cases hr : skRead false s with
    | none =>
      rw [hr] at hr1
      obtain ⟨l, hF⟩ := hr1
      exact ev9_opn E h _ _ _ FR hpR h25 s (by omega) l false hF n
    | some rs =>
      rw [hr] at hr1
      obtain ⟨hF, hf, hok⟩ := hr1
      exact ev9_yes E h _ _ _ FR FT FD hpR hpT hpD h25 h26 h27 s (by omega) _ _ (skTree_node false rs hf.1) hF (hFT rs hf (List.all_eq_true.2 hok)) (hFD s rs hr (by omega)) n

theorem ev13_tcp (E : Env) (h : E.code 20 = some c13) (hR : Has E 30 (SRead false)) (hP : Has E 27 (SPrint false)) (hD : Has E 29 SDoor_tcp) (h25 : E.pure 36 = some F25) (h26 : E.pure 37 = some F26) (h27 : E.pure 38 = some F27) (s : List UInt8) (n : Nat) :
    evP E n 20 [.str s, .fn 30 [] [], .fn 27 [] [], .fn 29 [] []] = some (.sv (.bool true)) := by
  obtain ⟨FR, hpR, hFR⟩ := hR
  obtain ⟨FP, hpP, hFP⟩ := hP
  obtain ⟨FD, hpD, hFD⟩ := hD
  by_cases hs : 40000 < s.length
  · exact ev13_long E h _ _ _ s hs n
  · have hr1 := hFR s (by omega)
    cases hr : skRead false s with
    | none =>
      rw [hr] at hr1
      obtain ⟨l, hF⟩ := hr1
      exact ev13_opn E h _ _ _ FR hpR h25 s (by omega) l false hF n
    | some rs =>
      rw [hr] at hr1
      obtain ⟨hF, hf, hok⟩ := hr1
      have hp := hFP rs hf
      rw [if_pos (List.all_eq_true.2 hok)] at hp
      exact ev13_yes E h _ _ _ FR FP FD hpR hpP hpD h25 h26 h27 s (skText false rs) (by omega) _ _ (skTree_node false rs hf.1) hF hp (hFD s rs hr (by omega)) (fun ho => hFD _ rs (skRead_text hok) ho) n

theorem ev1016_tcp (E : Env) (h : E.code 16 = some c1016) (hP : Has E 27 (SPrint false)) (hT : Has E 28 (STree false)) (hD : Has E 29 SDoor_tcp) (h25 : E.pure 36 = some F25) (h26 : E.pure 37 = some F26) (h27 : E.pure 38 = some F27) (l : List RowD) (hz : zzRows l = true) (hn : ∀ r ∈ l, ∀ n ∈ r.N, n < 18446744073709551616) (n : Nat) :
    evP E n 16 [.sl (rowsSV l), .fn 27 [] [], .fn 28 [] [], .fn 29 [] []] = some (.sv (.bool true)) := by
  obtain ⟨FP, hpP, hFP⟩ := hP
  obtain ⟨FT, hpT, hFT⟩ := hT
  obtain ⟨FD, hpD, hFD⟩ := hD
  have hrl : (rowsSV l).length = l.length := by simp [rowsSV]
  by_cases hl : 1000 < l.length
  · exact ev1016_long E h _ _ _ _ (by omega) n
  · have hf := zzRows_fit hz hn (by omega)
    have hF := hFP l hf
    cases hx : l.all (skOk false) with
    | false =>
      rw [if_neg (by simp [hx])] at hF
      exact ev1016_open E h _ _ _ FP hpP h25 _ (by omega) [] 2 hF (.inl (by decide)) n
    | true =>
      rw [if_pos hx] at hF
      by_cases ho : 40000 < (skText false l).length
      · exact ev1016_open E h _ _ _ FP hpP h25 _ (by omega) (skText false l) 1 hF (.inr ho) n
      · exact ev1016_yes E h _ _ _ FP FT FD hpP hpT hpD h25 h26 h27 _ (by omega) (skText false l) (by omega) (skTree false l) (skTree_node false l hf.1) hF (hFT l hf hx) (hFD _ l (skRead_text (List.all_eq_true.1 hx)) (by omega)) n

theorem ev9_udp (E : Env) (h : E.code 22 = some c9) (hR : Has E 34 (SRead true)) (hT : Has E 32 (STree true)) (hD : Has E 33 SDoor_udp) (h25 : E.pure 36 = some F25) (h26 : E.pure 37 = some F26) (h27 : E.pure 38 = some F27) (s : List UInt8) (n : Nat) :
    evP E n 22 [.str s, .fn 34 [] [], .fn 32 [] [], .fn 33 [] []] = some (.sv (.bool true)) := by
  obtain ⟨FR, hpR, hFR⟩ := hR
  obtain ⟨FT, hpT, hFT⟩ := hT
  obtain ⟨FD, hpD, hFD⟩ := hD
  by_cases hs : 40000 < s.length
  · exact ev9_long E h _ _ _ s hs n
  · have hr1 := hFR s (by omega)
    cases hr : skRead true s with
    | none =>
      rw [hr] at hr1
      obtain ⟨l, hF⟩ := hr1
      exact ev9_opn E h _ _ _ FR hpR h25 s (by omega) l false hF n
    | some rs =>
      rw [hr] at hr1
      obtain ⟨hF, hf, hok⟩ := hr1
      exact ev9_yes E h _ _ _ FR FT FD hpR hpT hpD h25 h26 h27 s (by omega) _ _ (skTree_node true rs hf.1) hF (hFT rs hf (List.all_eq_true.2 hok)) (hFD s rs hr (by omega)) n

theorem ev13_udp (E : Env) (h : E.code 20 = some c13) (hR : Has E 34 (SRead true)) (hP : Has E 31 (SPrint true)) (hD : Has E 33 SDoor_udp) (h25 : E.pure 36 = some F25) (h26 : E.pure 37 = some F26) (h27 : E.pure 38 = some F27) (s : List UInt8) (n : Nat) :
    evP E n 20 [.str s, .fn 34 [] [], .fn 31 [] [], .fn 33 [] []] = some (.sv (.bool true)) := by
  obtain ⟨FR, hpR, hFR⟩ := hR
  obtain ⟨FP, hpP, hFP⟩ := hP
  obtain ⟨FD, hpD, hFD⟩ := hD
  by_cases hs : 40000 < s.length
  · exact ev13_long E h _ _ _ s hs n
  · have hr1 := hFR s (by omega)
    cases hr : skRead true s with
    | none =>
      rw [hr] at hr1
      obtain ⟨l, hF⟩ := hr1
      exact ev13_opn E h _ _ _ FR hpR h25 s (by omega) l false hF n
    | some rs =>
      rw [hr] at hr1
      obtain ⟨hF, hf, hok⟩ := hr1
      have hp := hFP rs hf
      rw [if_pos (List.all_eq_true.2 hok)] at hp
      exact ev13_yes E h _ _ _ FR FP FD hpR hpP hpD h25 h26 h27 s (skText true rs) (by omega) _ _ (skTree_node true rs hf.1) hF hp (hFD s rs hr (by omega)) (fun ho => hFD _ rs (skRead_text hok) ho) n

theorem ev1016_udp (E : Env) (h : E.code 16 = some c1016) (hP : Has E 31 (SPrint true)) (hT : Has E 32 (STree true)) (hD : Has E 33 SDoor_udp) (h25 : E.pure 36 = some F25) (h26 : E.pure 37 = some F26) (h27 : E.pure 38 = some F27) (l : List RowD) (hz : zzRows l = true) (hn : ∀ r ∈ l, ∀ n ∈ r.N, n < 18446744073709551616) (n : Nat) :
    evP E n 16 [.sl (rowsSV l), .fn 31 [] [], .fn 32 [] [], .fn 33 [] []] = some (.sv (.bool true)) := by
  obtain ⟨FP, hpP, hFP⟩ := hP
  obtain ⟨FT, hpT, hFT⟩ := hT
  obtain ⟨FD, hpD, hFD⟩ := hD
  have hrl : (rowsSV l).length = l.length := by simp [rowsSV]
  by_cases hl : 1000 < l.length
  · exact ev1016_long E h _ _ _ _ (by omega) n
  · have hf := zzRows_fit hz hn (by omega)
    have hF := hFP l hf
    cases hx : l.all (skOk true) with
    | false =>
      rw [if_neg (by simp [hx])] at hF
      exact ev1016_open E h _ _ _ FP hpP h25 _ (by omega) [] 2 hF (.inl (by decide)) n
    | true =>
      rw [if_pos hx] at hF
      by_cases ho : 40000 < (skText true l).length
      · exact ev1016_open E h _ _ _ FP hpP h25 _ (by omega) (skText true l) 1 hF (.inr ho) n
      · exact ev1016_yes E h _ _ _ FP FT FD hpP hpT hpD h25 h26 h27 _ (by omega) (skText true l) (by omega) (skTree true l) (skTree_node true l hf.1) hF (hFT l hf hx) (hFD _ l (skRead_text (List.all_eq_true.1 hx)) (by omega)) n

def S9k (F : List SV → Option AV) : Prop := ∀ s : List UInt8, F [.str s, .fn 30 [] [], .fn 28 [] [], .fn 29 [] []] = some (.sv (.bool true)) ∧ F [.str s, .fn 34 [] [], .fn 32 [] [], .fn 33 [] []] = some (.sv (.bool true))

theorem ev9k (E : Env) (h : E.code 22 = some c9) (h1 : Has E 30 (SRead false)) (h2 : Has E 28 (STree false)) (h3 : Has E 29 SDoor_tcp) (h4 : Has E 34 (SRead true)) (h5 : Has E 32 (STree true)) (h6 : Has E 33 SDoor_udp) (h25 : E.pure 36 = some F25) (h26 : E.pure 37 = some F26) (h27 : E.pure 38 = some F27) : S9k (autoF E 22) := fun s =>
  ⟨autoF_sv (ev9_tcp E h h1 h2 h3 h25 h26 h27 s 1) rfl, autoF_sv (ev9_udp E h h4 h5 h6 h25 h26 h27 s 1) rfl⟩

def S13k (F : List SV → Option AV) : Prop := ∀ s : List UInt8, F [.str s, .fn 30 [] [], .fn 27 [] [], .fn 29 [] []] = some (.sv (.bool true)) ∧ F [.str s, .fn 34 [] [], .fn 31 [] [], .fn 33 [] []] = some (.sv (.bool true))

theorem ev13k (E : Env) (h : E.code 20 = some c13) (h1 : Has E 30 (SRead false)) (h2 : Has E 27 (SPrint false)) (h3 : Has E 29 SDoor_tcp) (h4 : Has E 34 (SRead true)) (h5 : Has E 31 (SPrint true)) (h6 : Has E 33 SDoor_udp) (h25 : E.pure 36 = some F25) (h26 : E.pure 37 = some F26) (h27 : E.pure 38 = some F27) : S13k (autoF E 20) := fun s =>
  ⟨autoF_sv (ev13_tcp E h h1 h2 h3 h25 h26 h27 s 1) rfl, autoF_sv (ev13_udp E h h4 h5 h6 h25 h26 h27 s 1) rfl⟩

def S1016k (F : List SV → Option AV) : Prop := ∀ l : List RowD, zzRows l = true → (∀ r ∈ l, ∀ n ∈ r.N, n < 18446744073709551616) → F [.sl (rowsSV l), .fn 27 [] [], .fn 28 [] [], .fn 29 [] []] = some (.sv (.bool true)) ∧ F [.sl (rowsSV l), .fn 31 [] [], .fn 32 [] [], .fn 33 [] []] = some (.sv (.bool true))

theorem ev1016k (E : Env) (h : E.code 16 = some c1016) (h1 : Has E 27 (SPrint false)) (h2 : Has E 28 (STree false)) (h3 : Has E 29 SDoor_tcp) (h4 : Has E 31 (SPrint true)) (h5 : Has E 32 (STree true)) (h6 : Has E 33 SDoor_udp) (h25 : E.pure 36 = some F25) (h26 : E.pure 37 = some F26) (h27 : E.pure 38 = some F27) : S1016k (autoF E 16) := fun l hz hn =>
  ⟨autoF_sv (ev1016_tcp E h h1 h2 h3 h25 h26 h27 l hz hn 1) rfl, autoF_sv (ev1016_udp E h h4 h5 h6 h25 h26 h27 l hz hn 1) rfl⟩

theorem ev1011 (E : Env) (h : E.code 11 = some c1011) (h9 : Has E 22 S9k) (s : List UInt8) (n : Nat) : evP E n 11 [.str s] = some (.sv (.bool true)) := by
  obtain ⟨F, hp, hF⟩ := h9
  have hF1 := (hF s).1
  unfold evP
  simp only [h]
  by_cases hs : 2147483647 < s.length
  · have e : (2147483647 : Int) < (s.length : Int) := by omega
    simp [c1011, List.replicate, e]
  · have e : ¬ (2147483647 : Int) < (s.length : Int) := by omega
    simp [c1011, List.replicate, e, hp, hF1]

theorem ev1010 (E : Env) (h : E.code 10 = some c1010) (h13 : Has E 20 S13k) (s : List UInt8) (n : Nat) : evP E n 10 [.str s] = some (.sv (.bool true)) := by
  obtain ⟨F, hp, hF⟩ := h13
  have hF1 := (hF s).1
  unfold evP
  simp only [h]
  by_cases hs : 2147483647 < s.length
  · have e : (2147483647 : Int) < (s.length : Int) := by omega
    simp [c1010, List.replicate, e]
  · have e : ¬ (2147483647 : Int) < (s.length : Int) := by omega
    simp [c1010, List.replicate, e, hp, hF1]

theorem ev1009 (E : Env) (h : E.code 9 = some c1009) (h15 : E.pure 15 = some F1015) (h16 : Has E 16 S1016k) (l : List RowD) (hn : ∀ r ∈ l, ∀ n ∈ r.N, n < 18446744073709551616) (n : Nat) : evP E n 9 [.sl (rowsSV l)] = some (.sv (.bool true)) := by
  obtain ⟨G, hp, hG⟩ := h16
  unfold evP
  simp only [h]
  have hF := F1015_eq l
  cases hz : zzRows l with
  | false => rw [hz] at hF; simp [c1009, List.replicate, h15, hF]
  | true =>
    rw [hz] at hF
    have hF2 := (hG l hz hn).1
    simp [c1009, List.replicate, h15, hF, hp, hF2]

theorem ev1014 (E : Env) (h : E.code 14 = some c1014) (h9 : Has E 22 S9k) (s : List UInt8) (n : Nat) : evP E n 14 [.str s] = some (.sv (.bool true)) := by
  obtain ⟨F, hp, hF⟩ := h9
  have hF1 := (hF s).2
  unfold evP
  simp only [h]
  by_cases hs : 2147483647 < s.length
  · have e : (2147483647 : Int) < (s.length : Int) := by omega
    simp [c1014, List.replicate, e]
  · have e : ¬ (2147483647 : Int) < (s.length : Int) := by omega
    simp [c1014, List.replicate, e, hp, hF1]

theorem ev1013 (E : Env) (h : E.code 13 = some c1013) (h13 : Has E 20 S13k) (s : List UInt8) (n : Nat) : evP E n 13 [.str s] = some (.sv (.bool true)) := by
  obtain ⟨F, hp, hF⟩ := h13
  have hF1 := (hF s).2
  unfold evP
  simp only [h]
  by_cases hs : 2147483647 < s.length
  · have e : (2147483647 : Int) < (s.length : Int) := by omega
    simp [c1013, List.replicate, e]
  · have e : ¬ (2147483647 : Int) < (s.length : Int) := by omega
    simp [c1013, List.replicate, e, hp, hF1]

theorem ev1012 (E : Env) (h : E.code 12 = some c1012) (h15 : E.pure 15 = some F1015) (h16 : Has E 16 S1016k) (l : List RowD) (hn : ∀ r ∈ l, ∀ n ∈ r.N, n < 18446744073709551616) (n : Nat) : evP E n 12 [.sl (rowsSV l)] = some (.sv (.bool true)) := by
  obtain ⟨G, hp, hG⟩ := h16
  unfold evP
  simp only [h]
  have hF := F1015_eq l
  cases hz : zzRows l with
  | false => rw [hz] at hF; simp [c1012, List.replicate, h15, hF]
  | true =>
    rw [hz] at hF
    have hF2 := (hG l hz hn).2
    simp [c1012, List.replicate, h15, hF, hp, hF2]

end Go.Ev

set_option linter.unusedSimpArgs false
set_option linter.unusedVariables false
namespace Go.Ev
open Go.Proofs
variable {P : Program} {E : Env}

theorem p97h (B : Base P E) (h : E.code 136 = some c97) : PureFn P E 136 F97h := by
  refine PureFn.of_rec size97 B.m B.T B.Q B.P fun m vs r hF hs => ?_
  unfold F97h at hF
  split at hF
  · obtain ⟨⟨h0, h1, rfl⟩, hr⟩ := onlyIf_some hF
    rename_i c
    obtain ⟨k, rfl⟩ := Int.eq_ofNat_of_zero_le h0
    simp only [Option.some.injEq, Int.toNat_natCast] at hr; subst hr
    simp only [size97, Int.toNat_natCast] at hs
    subst hs
    exact ⟨1, _, ev97h E h 1 k (by omega), .inl rfl⟩
  · cases hF

/-- A law of one text. -/
theorem ptOf (B : Base P E) {f : Nat} (h : ∀ s n, evP E n f [.str s] = some (.sv (.bool true))) : PureFn P E f F8x := by
  refine PureFn.of B.m B.T B.Q B.P fun vs r hF => ?_
  unfold F8x at hF
  split at hF
  · rename_i s
    simp only [Option.some.injEq] at hF; subst hF
    exact ⟨1, _, h s 1, .inl rfl⟩
  · cases hF

/-- A law of rows. -/
theorem pbOf (B : Base P E) {f : Nat} (h : ∀ l : List RowD, (∀ r ∈ l, ∀ n ∈ r.N, n < 18446744073709551616) → ∀ n, evP E n f [.sl (rowsSV l)] = some (.sv (.bool true))) : PureFn P E f F1003 := by
  refine PureFn.of B.m B.T B.Q B.P fun vs r hF => ?_
  unfold F1003 at hF
  split at hF
  · rename_i l
    obtain ⟨⟨h1, h2⟩, hr⟩ := onlyIf_some hF
    simp only [Option.some.injEq] at hr; subst hr
    refine ⟨1, _, ?_, .inl rfl⟩
    have := h (l.map unrow) h2 1
    rw [← h1] at this
    exact this
  · cases hF

end Go.Ev
