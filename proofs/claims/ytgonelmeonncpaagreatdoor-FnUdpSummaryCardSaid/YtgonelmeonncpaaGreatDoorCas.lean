/- Sockets: the summary's door. -/
/- Sockets: how long a text of rows is. -/
/- Sockets: the summary's law. -/
/- Sockets: the door of UDP's summary. -/
/- Sockets: the law of UDP's summary. -/
/- What the listed variables hold, in the evaluator's words. -/
/- Rows of an argument, opened: what the evaluator reads in them. -/
import Derived.Test.YtgonelmeonncpaaGreatDoorCaq
import Derived.Test.YtgonelmeonncpaaGreatDoorCak
import Derived.Test.YtgonelmeonncpaaGreatDoorCao
import Derived.Test.YtgonelmeonncpaaGreatDoorCai
import Derived.ProofKit
import Derived.OpenShut
import Derived.LaidMore
import Derived.Test.YtgonelmeonncpaaGreatDoorCaf
import Derived.Test.YtgonelmeonncpaaGreatDoorCam
import Derived.SliceStrings
import Derived.ChangeSlices
set_option linter.unusedSimpArgs false
set_option linter.unusedVariables false
namespace Go.Ev
open Go.Proofs

/-- A sum as the program counts it. -/
def sumW (g : RowD → Nat) : Int → List RowD → Int
  | a, [] => a
  | a, r :: rs => sumW g (IntKind.u64.wrap (a + (g r : Int))) rs

def f4 (r : RowD) : Nat := r.N.getD 4 0
def f5 (r : RowD) : Nat := r.N.getD 5 0
def f8 (r : RowD) : Nat := r.N.getD 8 0
def one (_ : RowD) : Nat := 1

theorem scanG2 (E : Env) (h : E.code 133 = some c88) (s t line rest : List UInt8) (h1 : ∀ c ∈ line, c.toNat ≠ 10) (h3 : (s = line ++ 10 :: rest) ∨ (s = line ∧ rest = [] ∧ line ≠ [])) (hl : s.length < 65536) (hr : ∀ c ∈ s, c.toNat ≠ 13) (b0 b1 : Box) (n : Nat) (hn : s.length < n) :
    evF E (n + 1) 133 [.ptr 2 0] [b0, b1, scanBox s t] = some (.sv (.bool true), [b0, b1, scanBox rest line]) := by
  rcases h3 with h3 | ⟨h3, h4, h5⟩
  · subst h3
    simp only [List.length_append, List.length_cons] at hl hn
    exact scan88 E h 2 [b0, b1, scanBox (line ++ 10 :: rest) t] line rest t rfl (by omega) (by omega) (fun c hc => ⟨h1 c hc, hr c (by simp [hc])⟩) n (by omega)
  · subst h4
    subst h3
    exact scan88n E h 2 [b0, b1, scanBox s t] s t rfl h5 hl (fun c hc => ⟨h1 c hc, hr c hc⟩) n hn

def smB (a b u : Int) : Box := .live [.sv (.int .u64 a), .sv (.int .u64 b), .sv (.int .u64 u), .sv .nilP]

def st2211 (s t : List UInt8) (a b u : Int) : SA := { nt := 79, tm := [(11, .ptr 2 0), (9, .ptr 1 0), (8, .ptr 0 0), (1, .sv (.bool false))], lz := none, bx := [smB a b u, .live [.sv (.int .u64 0)], scanBox s t], df := [131], lk := true }

theorem skCells_f {r : RowD} (h : skOk false r = true) : ∃ x0 x1 x2 x3 x4 x5 x8 x9, skCells false r = [x0, x1, x2, x3, x4, x5, .int .u64 (f4 r), .int .u64 (f5 r), x8, x9, .nilP] := by
  obtain ⟨n0, n1, n2, n3, n4, n5, n6, n7, n8, a, b, hs⟩ := skOk_spec h
  rw [skRow_eq hs]
  exact ⟨_, _, _, _, _, _, _, _, rfl⟩

set_option maxHeartbeats 2000000 in
theorem loop2211 (E : Env) (N m : Nat) (h88 : E.code 133 = some c88) (h90 : E.code 135 = some c90) (h127 : E.pure 201 = some F127) (h59 : Has E 225 S1159) (hp88 : E.pure 133 = none) (hp90 : E.pure 135 = none) :
    ∀ (rs : List RowD) (s t : List UInt8) (a b u : Int) (k : Nat), skTabV false (lineG [] s) = some rs → (∀ c ∈ s, plainC c = true) → (∀ r ∈ rs, skOk false r = true) → s.length ≤ 65000 → s.length < N → rs.length < k →
      roundsA (evCA E (evF E (N + 1)) m b2211_0) k (st2211 s t a b u) =
        some (.exit 0, { nt := 79, tm := [(11, .ptr 2 0), (8, .ptr 0 0)], lz := none, bx := [smB (sumW f4 a rs) (sumW f5 b rs) (sumW one u rs), .live [.sv (.int .u64 0)], scanBox [] []], df := [131], lk := true }) := by
  obtain ⟨F, hp, hF⟩ := h59
  intro rs
  induction rs with
  | nil =>
    intro s t a b u k hn hpl _ hl hN hk
    obtain ⟨k, rfl⟩ : ∃ k', k = k' + 1 := ⟨k - 1, by omega⟩
    rcases skTab_cons hn with ⟨rfl, _⟩ | ⟨line, rest, r, rs', _, _, _, e, _⟩
    · have hs := scan88e E h88 2 [smB a b u, .live [.sv (.int .u64 0)], scanBox [] t] t rfl N
      simp only [List.set_cons_zero, List.set_cons_succ] at hs
      refine roundsA_out ?_ (by simp)
      simp only [smB] at hs
      simp [b2211_0, st2211, hp88, hs, sumW, smB]
    · cases e
  | cons r rs ih =>
    intro s t a b u k hn hpl hok hl hN hk
    obtain ⟨k, rfl⟩ : ∃ k', k = k' + 1 := ⟨k - 1, by omega⟩
    rcases skTab_cons hn with ⟨_, e⟩ | ⟨line, rest, r', rs', h1, h3, hv, e, hn'⟩
    · cases e
    · simp only [List.cons.injEq] at e
      obtain ⟨rfl, rfl⟩ := e
      have hll : line.length ≤ s.length ∧ rest.length ≤ s.length ∧ (∀ c ∈ line, plainC c = true) ∧ (∀ c ∈ rest, plainC c = true) := by
        rcases h3 with rfl | ⟨rfl, rfl, _⟩
        · refine ⟨by simp, by simp; omega, fun c hc => hpl c (by simp [hc]), fun c hc => hpl c (by simp [hc])⟩
        · exact ⟨by omega, by simp, hpl, by simp⟩
      obtain ⟨l1, l2, l3, l4⟩ := hll
      have hsc := scanG2 E h88 s t line rest h1 h3 (by omega) (fun c hc => (plain_lt (hpl c hc)).2) (smB a b u) (.live [.sv (.int .u64 0)]) N hN
      have htx := evF90 E h90 N 2 [smB a b u, .live [.sv (.int .u64 0)], scanBox rest line] rest line rfl
      have hF1 : F127 [.str line] = some (.sv (.sl (strs (fieldsL line)))) := by
        have := F127_eq line (by omega) (fun c hc => (plain_lt (l3 c hc)).1)
        rw [words_fields (fun c hc => ⟨l3 c hc, h1 c hc⟩)] at this
        exact this
      have hF2 := hF false (fieldsL line) r hv (hok r (by simp)) (fun x hx => by
        obtain ⟨_, _, k2⟩ := fieldsV_shape line
        have := k2 x hx; omega)
      have he := ih rest line (IntKind.u64.wrap (a + (f4 r : Int))) (IntKind.u64.wrap (b + (f5 r : Int))) (IntKind.u64.wrap (u + 1)) k hn' l4 (fun q hq => hok q (by simp [hq])) (by omega) (by omega) (by simp at hk; omega)
      obtain ⟨x0, x1, x2, x3, x4, x5, x8, x9, hcs⟩ := skCells_f (hok r (by simp))
      have hst : evCA E (evF E (N + 1)) m b2211_0 (st2211 s t a b u) = some (.normal, st2211 rest line (IntKind.u64.wrap (a + (f4 r : Int))) (IntKind.u64.wrap (b + (f5 r : Int))) (IntKind.u64.wrap (u + 1))) := by
        rw [hcs] at hF2
        generalize strs (fieldsL line) = fl at *
        simp only [smB] at hsc htx
        simp [b2211_0, st2211, smB, hp88, hp90, hsc, htx, h127, hF1, hp, hF2]
      rw [roundsA_step hst, he]
      rfl

def SSumm (F : List SV → Option AV) : Prop := ∀ (s : List UInt8) (rs : List RowD), skRead false s = some rs → s.length ≤ 65000 → F [.str s, .bool false] = some (.sv (.tup [.ref [.int .u64 (sumW f4 0 rs), .int .u64 (sumW f5 0 rs), .int .u64 (sumW one 0 rs), .nilP], .nilI]))

set_option maxHeartbeats 2000000 in
theorem ev2211 (E : Env) (h : E.code 211 = some c2211) (h87 : E.code 132 = some c87) (h88 : E.code 133 = some c88) (h90 : E.code 135 = some c90) (h128 : E.code 202 = some c128) (hq : E.quiet 131 = true) (h84 : E.pure 129 = some F84) (h127 : E.pure 201 = some F127) (h59 : Has E 225 S1159) (hp87 : E.pure 132 = none) (hp88 : E.pure 133 = none) (hp90 : E.pure 135 = none) (hp128 : E.pure 202 = none) : SSumm (autoF E 211) := by
  intro s rs hr hs
  obtain ⟨rest, g1, g2, g3, g4⟩ := skRead_spec hr
  have hrl : rest.length ≤ 65000 ∧ rest.length < s.length := by rw [g1] at hs ⊢; simp at hs ⊢; omega
  obtain ⟨f1, f2⟩ := skRows_fit6 g3 hrl.1
  have hlen : rs.length ≤ rest.length + 1 := by
    obtain ⟨_, k1, k2⟩ := linesV_shape rest
    obtain ⟨g1, g2⟩ := skTabV_fit (B := 65000) (by omega) g3 (fun x hx => by have := k2 x hx; omega)
    omega
  rw [linesL_eq] at g3
  have hpr : ∀ c ∈ rest, plainC c = true := fun c hc => g2 c (by rw [g1]; simp [hc])
  have e87 := evF87 E h87 (s.length + 1) [smB 0 0 0, .live [.sv (.int .u64 0)]] s
  have hsc := scanG2 E h88 s [] skHeadL rest (by decide) (.inl g1) (by omega) (fun c hc => (plain_lt (g2 c hc)).2) (smB 0 0 0) (.live [.sv (.int .u64 0)]) (s.length + 1) (by omega)
  have hl := loop2211 E (s.length + 1) (s.length + 2) h88 h90 h127 h59 hp88 hp90 rs rest skHeadL 0 0 0 (s.length + 2) g3 hpr g4 hrl.1 (by omega) (by omega)
  have e128 := evF128 E h128 (s.length + 1) 2 [smB (sumW f4 0 rs) (sumW f5 0 rs) (sumW one 0 rs), .live [.sv (.int .u64 0)], scanBox [] []] [] [] rfl
  clear g1 g2 g3 hpr hr
  refine autoA_sv (n := s.length + 2) ?_ rfl
  unfold evPA
  simp only [h]
  generalize skHeadL = hd at *
  simp only [st2211, smB, scanBox, List.length_cons, List.length_nil, List.cons_append, List.nil_append] at *
  simp [c2211, h84, F84, hq, hp87, hp88, hp128, e87, hsc, hl, e128]


/-! ### The summary's way up -/

def smCells (rs : List RowD) : List SV := [.int .u64 (sumW f4 0 rs), .int .u64 (sumW f5 0 rs), .int .u64 (sumW one 0 rs), .nilP]

def SNs_sm (F : List SV → Option AV) : Prop := ∀ (s : List UInt8) (rs : List RowD), skRead false s = some rs → s.length ≤ 65000 → F [.str s] = some (.sv (.tup [.ref (smCells rs), .nilI]))

theorem ev2185 (E : Env) (h : E.code 185 = some c2185) (h44 : Has E 211 SSumm) : SNs_sm (autoF E 185) := by
  obtain ⟨F, hp, hF⟩ := h44
  intro s rs hr hs
  have hF1 := hF s rs hr hs
  refine autoA_sv (n := 1) ?_ rfl
  unfold evPA
  simp only [h]
  unfold smCells
  simp [c2185, hp, hF1]

def SFs_sm (F : List SV → Option AV) : Prop := ∀ (s : List UInt8) (rs : List RowD), skRead false s = some rs → s.length ≤ 65000 → F [.agg [.str s]] = some (.sv (.tup [.ref (smCells rs), .nilI]))

theorem ev2094 (E : Env) (h : E.code 94 = some c2094) (h85 : E.pure 130 = some F85) (hN : Has E 185 SNs_sm) : SFs_sm (autoF E 94) := by
  obtain ⟨F, hp, hF⟩ := hN
  intro s rs hr hs
  have hF1 := hF s rs hr hs
  refine autoA_sv (n := 1) ?_ rfl
  unfold evPA
  simp only [h]
  unfold smCells at *
  simp [c2094, h85, F85, hp, hF1]

def nTQL : List UInt8 := [84, 120, 81, 117, 101, 117, 101, 76, 101, 110, 103, 116, 104]
def nRQL : List UInt8 := [82, 120, 81, 117, 101, 117, 101, 76, 101, 110, 103, 116, 104]
def nUS : List UInt8 := [85, 115, 101, 100, 83, 111, 99, 107, 101, 116, 115]
def nDr : List UInt8 := [68, 114, 111, 112, 115]

/-- The summary as a tree. -/
def smTree (rs : List RowD) : SV := nodeV [] 8 false 0 0 0 [] [nodeV nTQL 3 false 0 (sumW f4 0 rs) 0 [] [], nodeV nRQL 3 false 0 (sumW f5 0 rs) 0 [] [], nodeV nUS 3 false 0 (sumW one 0 rs) 0 [] [], nodeV nDr 0 false 0 0 0 [] []]

def S1145s (F : List SV → Option AV) : Prop := ∀ nm : List UInt8, F [.str nm, .nilP, .fn 187 [] []] = some (.sv (nodeV nm 0 false 0 0 0 [] []))

theorem ev1145s (E : Env) (h : E.code 186 = some c1145) : S1145s (autoF E 186) := by
  intro nm
  refine autoA_sv (n := 1) ?_ rfl
  unfold evPA
  simp only [h]
  simp [c1145, nodeV]

def S2097 (F : List SV → Option AV) : Prop := ∀ rs : List RowD, F [.str [], .agg (smCells rs)] = some (.sv (smTree rs))

theorem ev2097 (E : Env) (h : E.code 97 = some c2097) (h45 : Has E 186 S1145s) : S2097 (autoF E 97) := by
  obtain ⟨F, hp, hF⟩ := h45
  intro rs
  have hF1 := hF nDr
  refine autoA_sv (n := 1) ?_ rfl
  unfold evPA
  simp only [h]
  unfold smTree smCells nTQL nRQL nUS nDr nodeV at *
  generalize sumW f4 0 rs = a at *
  generalize sumW f5 0 rs = b at *
  generalize sumW one 0 rs = u at *
  simp [c2097, hp, hF1]

def S2096 (F : List SV → Option AV) : Prop := ∀ rs : List RowD, F [.str [], .ref (smCells rs), .fn 97 [] []] = some (.sv (smTree rs))

theorem ev2096 (E : Env) (h : E.code 96 = some c2096) (h97 : Has E 97 S2097) : S2096 (autoF E 96) := by
  obtain ⟨F, hp, hF⟩ := h97
  intro rs
  have hF1 := hF rs
  refine autoA_sv (n := 1) ?_ rfl
  unfold evPA
  simp only [h]
  unfold smTree smCells nTQL nRQL nUS nDr nodeV at *
  generalize sumW f4 0 rs = a at *
  generalize sumW f5 0 rs = b at *
  generalize sumW one 0 rs = u at *
  simp [c2096, hp, hF1]

def S2095 (F : List SV → Option AV) : Prop := ∀ rs : List RowD, F [.ref (smCells rs)] = some (.sv (smTree rs))

theorem ev2095 (E : Env) (h : E.code 95 = some c2095) (h96 : Has E 96 S2096) : S2095 (autoF E 95) := by
  obtain ⟨F, hp, hF⟩ := h96
  intro rs
  have hF1 := hF rs
  refine autoA_sv (n := 1) ?_ rfl
  unfold evPA
  simp only [h]
  unfold smTree nodeV at *
  generalize smCells rs = cs at *
  simp [c2095, hp, hF1]

def STr_sm (F : List SV → Option AV) : Prop := ∀ (s : List UInt8) (rs : List RowD), skRead false s = some rs → s.length ≤ 65000 → F [.fn 94 [.agg [.str s]] [], .fn 95 [] []] = some (.sv (.tup [smTree rs, .int .i64 0]))

theorem ev2093 (E : Env) (h : E.code 93 = some c2093) (hq : E.quiet 184 = true) (hS : Has E 94 SFs_sm) (hC : Has E 95 S2095) : STr_sm (autoF E 93) := by
  obtain ⟨F, hp, hF⟩ := hS
  obtain ⟨G, hg, hG⟩ := hC
  intro s rs hr hs
  have hF1 := hF s rs hr hs
  have hG1 := hG rs
  refine autoA_sv (n := 1) ?_ rfl
  unfold evPA
  simp only [h]
  unfold smTree nodeV at *
  generalize smCells rs = cs at *
  simp [c2093, hp, hF1, hg, hG1, hq]

def SDoor_sm (F : List SV → Option AV) : Prop := ∀ (s : List UInt8) (rs : List RowD), skRead false s = some rs → s.length ≤ 65000 → F [.str s] = some (.sv (.tup [smTree rs, .int .i64 0]))

theorem ev2036 (E : Env) (h : E.code 36 = some c2036) (h38 : E.pure 55 = some F38) (hT : Has E 93 STr_sm) : SDoor_sm (autoF E 36) := by
  obtain ⟨F, hp, hF⟩ := hT
  intro s rs hr hs
  have hF1 := hF s rs hr hs
  refine autoA_sv (n := 1) ?_ rfl
  unfold evPA
  simp only [h]
  unfold smTree nodeV at *
  simp [c2036, h38, F38, hp, hF1]

end Go.Ev

set_option linter.unusedSimpArgs false
set_option linter.unusedVariables false
namespace Go.Ev
open Go.Proofs

theorem skBody_len3 {d : Bool} {r : RowD} {n0 n1 n2 n3 n4 n5 n6 n7 n8 : Nat} {a b : List UInt8} (hs : SkR d r n0 n1 n2 n3 n4 n5 n6 n7 n8 a b) : (skBody d r).length ≤ 319 := by
  have b0 := hs.h0; have b1 := hs.h1; have b2 := hs.h2; have b3 := hs.h3; have b4 := hs.h4; have b5 := hs.h5; have b6 := hs.h6; have b7 := hs.h7; have b8 := hs.h8
  have l0 := decS_length n0 9 (by omega); have l6 := decS_length n6 9 (by omega); have l7 := decS_len20 (n := n7) (by omega); have l8 := decS_len20 (n := n8) (by omega)
  have k0 := rightS_len (decS n0) 4; have k6 := rightS_len (decS n6) 5
  have m1 := upS_len (n := n1) (by omega) 4; have m2 := upS_len (n := n2) (by omega) 4; have m3 := upS_len (n := n3) (by omega) 2; have m4 := upS_len (n := n4) (by omega) 8; have m5 := upS_len (n := n5) (by omega) 8
  have la : a.length ≤ 32 := by rcases hs.ha with h | h <;> omega
  have lb : b.length ≤ 32 := by rw [hs.hb]; exact la
  unfold skBody skLast
  simp only [hs.hN, hs.hS]
  cases d <;> simp <;> omega

theorem skText_len3 {d : Bool} : ∀ {rs : List RowD}, (∀ r ∈ rs, skOk d r = true) → (skText d rs).length ≤ 200 + rs.length * 320 := by
  have key : ∀ rs : List RowD, (∀ r ∈ rs, skOk d r = true) → ((rs.map fun r => skBody d r ++ [10]).flatten).length ≤ rs.length * 320 := by
    intro rs
    induction rs with
    | nil => intro _; simp
    | cons r rs ih =>
      intro h
      have := ih fun q hq => h q (by simp [hq])
      obtain ⟨n0, n1, n2, n3, n4, n5, n6, n7, n8, a, b, hs⟩ := skOk_spec (h r (by simp))
      have := skBody_len3 hs
      simp only [List.map_cons, List.flatten_cons, List.length_append, List.length_cons, List.length_nil] at *
      omega
  intro rs h
  have := key rs h
  unfold skText skHead skHeadL
  simp only [List.length_append, List.length_cons, List.length_nil]
  omega

theorem zzRows_four {l : List RowD} (h : zzRows l = true) (hn : ∀ r ∈ l, ∀ n ∈ r.N, n < 18446744073709551616) : rowsFit4 l := by
  unfold zzRows at h
  rw [Bool.and_eq_true, List.all_eq_true, decide_eq_true_eq] at h
  refine ⟨by omega, fun r hr => ?_⟩
  have h1 := h.2 r hr
  unfold zzRow zzS at h1
  simp only [Bool.and_eq_true, decide_eq_true_eq, List.all_eq_true] at h1
  obtain ⟨⟨h2, h3⟩, h4, h5⟩ := h1
  exact ⟨by omega, by omega, hn r hr, by omega, fun s hs => by have := h5 s hs; omega⟩

def SPrint4 (F : List SV → Option AV) : Prop := ∀ l : List RowD, rowsFit4 l → F [.sl (rowsSV l)] = some (.sv (.tup (if l.all (skOk true) = true then [.str (skText true l), .int .i64 1] else [.str [], .int .i64 2])))

theorem ev1031w (E : Env) (h : E.code 25 = some c1031) (h68 : Has E 70 S1068) (h69 : Has E 71 S1069) : SPrint4 (autoF E 25) := by
  obtain ⟨F, hp, hF⟩ := h68
  obtain ⟨G, hq, hG⟩ := h69
  intro l hl
  have hF1 := hF true l hl
  refine autoA_sv (n := 1) ?_ rfl
  unfold evPA
  simp only [h]
  cases ha : l.all (skOk true) with
  | false =>
    rw [ha] at hF1
    rw [if_neg (by simp)]
    simp [c1031, hp, hF1]
  | true =>
    rw [ha] at hF1
    have hG1 := hG true l hl (List.all_eq_true.1 ha)
    rw [if_pos rfl]
    generalize skText true l = o at *
    simp [c1031, hp, hF1, hq, hG1]

end Go.Ev

set_option linter.unusedSimpArgs false
set_option linter.unusedVariables false
namespace Go.Ev
open Go.Proofs

/-- A node's name. -/
def ndName : SV → List UInt8
  | .agg (.str s :: _) => s
  | _ => []

/-- A tree as a box holds it. -/
def ndBox8 (nm : List UInt8) (kd : Int) (b : Bool) (n u : Int) (f : Nat) (s : List UInt8) (k : List SV) : Box := .live [.sv (.str nm), .sv (.int .i64 kd), .sv (.bool b), .sv (.int .i64 n), .sv (.int .u64 u), .sv (.flt .f64 f), .sv (.str s), .sv (.sl k)]

def zeroB : Box := .live [.sv (.str []), .sv (.int .i64 0), .sv (.bool false), .sv (.int .i64 0), .sv (.int .u64 0), .sv (.flt .f64 0), .sv (.str []), .sv .nilS]

def st2098 (nm : List UInt8) (xs : List SV) (i : Nat) (z0 : Box) (bx : List Box) : SA := { nt := 22, tm := [(11, .sv (.int .i64 i)), (10, .sv (.int .i64 xs.length)), (9, .sv (.sl xs)), (4, .ptr 1 0), (1, .sv (.str nm))], lz := none, bx := z0 :: zeroB :: bx, df := [] }

theorem step2098 (E : Env) (cf : CallF) (m : Nat) (nm : List UInt8) (xs : List SV) (hxl : xs.length < 1000000000) (i : Nat) (hi : i < xs.length) (z0 : Box) (bx : List Box) (n : List UInt8) (kd : Int) (b : Bool) (j u : Int) (f : Nat) (s : List UInt8) (k : List SV)
    (hx : ∀ h : i < xs.length, xs[i]'h = nodeV n kd b j u f s k) :
    evCA E cf m b2098_0 (st2098 nm xs i z0 bx) = if n = nm then some (.ret, { nt := 22, tm := [(5, .sv (.bool true)), (4, .ptr 1 0)], lz := none, bx := z0 :: ndBox8 n kd b j u f s k :: (bx ++ [ndBox8 n kd b j u f s k]), df := [] }) else some (.normal, st2098 nm xs (i + 1) z0 (bx ++ [ndBox8 n kd b j u f s k])) := by
  have hw : IntKind.i64.wrap ((i : Int) + 1) = ((i + 1 : Nat) : Int) := by rw [IntKind.wrap_i64]; omega
  unfold nodeV at hx
  by_cases he : n = nm
  · subst he
    simp [st2098, zeroB, ndBox8, b2098_0, hi, hx]
  · have hb : (n == nm) = false := by simpa using he
    simp [st2098, zeroB, ndBox8, b2098_0, hi, hx, hw, he, hb]

/-- Is the value a node? -/
def IsN8 (v : SV) : Prop := ∃ (n : List UInt8) (kd : Int) (b : Bool) (j u : Int) (f : Nat) (s : List UInt8) (k : List SV), v = nodeV n kd b j u f s k

/-- The first of the kids that is called so. -/
def kidV (nm : List UInt8) : List SV → SV
  | [] => nodeV [] 0 false 0 0 0 [] []
  | v :: l => if ndName v = nm then v else kidV nm l

def hasK (nm : List UInt8) : List SV → Bool
  | [] => false
  | v :: l => if ndName v = nm then true else hasK nm l

theorem loop2098 (E : Env) (cf : CallF) (m : Nat) (nm : List UInt8) (xs : List SV) (hxl : xs.length < 1000000000) (z0 : Box) :
    ∀ (rest pre : List SV) (i : Nat) (bx : List Box) (k : Nat), xs = pre ++ rest → i = pre.length → (∀ v ∈ rest, IsN8 v) → rest.length < k →
      (hasK nm rest = true ∧ ∃ (n : List UInt8) (kd : Int) (b : Bool) (j u : Int) (f : Nat) (s : List UInt8) (q : List SV) (bx' : List Box), kidV nm rest = nodeV n kd b j u f s q ∧ roundsA (evCA E cf m b2098_0) k (st2098 nm xs i z0 bx) = some (.ret, { nt := 22, tm := [(5, .sv (.bool true)), (4, .ptr 1 0)], lz := none, bx := z0 :: ndBox8 n kd b j u f s q :: bx', df := [] })) ∨
      (hasK nm rest = false ∧ kidV nm rest = nodeV [] 0 false 0 0 0 [] [] ∧ ∃ bx' : List Box, roundsA (evCA E cf m b2098_0) k (st2098 nm xs i z0 bx) = some (.exit 0, { nt := 22, tm := [(4, .ptr 1 0)], lz := none, bx := z0 :: zeroB :: bx', df := [] })) := by
  intro rest
  induction rest with
  | nil =>
    intro pre i bx k hsp hi _ hk
    obtain ⟨k, rfl⟩ : ∃ k', k = k' + 1 := ⟨k - 1, by omega⟩
    have hlt : ¬ (i < xs.length) := by rw [hsp, hi]; simp
    refine .inr ⟨rfl, rfl, bx, roundsA_out ?_ (by simp)⟩
    simp [st2098, b2098_0, hlt]
  | cons v rest ih =>
    intro pre i bx k hsp hi hn hk
    obtain ⟨k, rfl⟩ : ∃ k', k = k' + 1 := ⟨k - 1, by omega⟩
    have hlt : i < xs.length := by rw [hsp, hi]; simp
    obtain ⟨n, kd, b, j, u, f, s, q, hv⟩ := hn v (by simp)
    have hx : ∀ h : i < xs.length, xs[i]'h = nodeV n kd b j u f s q := by subst hi; subst hsp; simp [hv]
    have hst := step2098 E cf m nm xs hxl i hlt z0 bx n kd b j u f s q hx
    have hnm : ndName v = n := by rw [hv]; rfl
    by_cases he : n = nm
    · rw [if_pos he] at hst
      refine .inl ⟨by simp [hasK, hnm, he], n, kd, b, j, u, f, s, q, bx ++ [ndBox8 n kd b j u f s q], by rw [kidV, if_pos (hnm.trans he), hv], roundsA_out hst (by simp)⟩
    · rw [if_neg he] at hst
      rw [roundsA_step hst]
      have h1 : hasK nm (v :: rest) = hasK nm rest := by simp [hasK, hnm, he]
      have h2 : kidV nm (v :: rest) = kidV nm rest := by simp [kidV, hnm, he]
      rw [h1, h2]
      exact ih (pre ++ [v]) (i + 1) _ k (by rw [hsp]; simp) (by simp [hi]) (fun w hw => hn w (by simp [hw])) (by simp at hk; omega)

def S2098 (F : List SV → Option AV) : Prop := ∀ (name : List UInt8) (kind : Int) (b : Bool) (i u : Int) (f : Nat) (s : List UInt8) (kids : List SV) (nm : List UInt8), kids.length < 1000000000 → (∀ v ∈ kids, IsN8 v) →
  F [nodeV name kind b i u f s kids, .str nm] = some (.sv (.tup [kidV nm kids, .bool (hasK nm kids)]))

theorem ev2098 (E : Env) (h : E.code 98 = some c2098) : S2098 (autoF E 98) := by
  intro name kind b i u f s kids nm hl hn
  refine autoA_sv (n := kids.length + 1) ?_ rfl
  unfold evPA
  simp only [h]
  have he := loop2098 E (evF E (kids.length + 1)) (kids.length + 1) nm kids hl (ndBox8 name kind b i u f s kids) kids [] 0 [] (kids.length + 1) rfl rfl hn (by omega)
  simp only [st2098, zeroB, ndBox8, Int.ofNat_zero, Int.natCast_zero] at he
  rcases he with ⟨h1, n', kd', b', j', u', f', s', q', bx', h2, h3⟩ | ⟨h1, h2, bx', h3⟩
  · rw [h1, h2]
    unfold nodeV
    simp [c2098, h3]
  · rw [h1, h2]
    unfold nodeV
    simp [c2098, h3]

/-! ### The sum over the rows -/

def st2099 (nm : List UInt8) (xs : List SV) (i : Nat) (a : Int) (bx : List Box) : SA := { nt := 29, tm := [(13, .sv (.int .i64 i)), (12, .sv (.int .i64 xs.length)), (11, .sv (.sl xs)), (5, .sv (.int .u64 a)), (1, .sv (.str nm))], lz := none, bx := bx, df := [] }

theorem step2099 (E : Env) (cf : CallF) (m : Nat) (G : List SV → Option AV) (hG : E.pure 98 = some G) (nm : List UInt8) (xs : List SV) (hxl : xs.length < 1000000000) (i : Nat) (hi : i < xs.length) (a : Int) (bx : List Box) (n : List UInt8) (kd : Int) (b : Bool) (j u : Int) (f : Nat) (s : List UInt8) (k : List SV)
    (n' : List UInt8) (kd' : Int) (b' : Bool) (j' u' : Int) (f' : Nat) (s' : List UInt8) (k' : List SV) (bb : Bool)
    (hx : ∀ h : i < xs.length, xs[i]'h = nodeV n kd b j u f s k) (hg : G [nodeV n kd b j u f s k, .str nm] = some (.sv (.tup [nodeV n' kd' b' j' u' f' s' k', .bool bb]))) :
    evCA E cf m b2099_0 (st2099 nm xs i a bx) = some (.normal, st2099 nm xs (i + 1) (IntKind.u64.wrap (a + u')) (bx ++ [ndBox8 n kd b j u f s k, ndBox8 n' kd' b' j' u' f' s' k'])) := by
  have hw : IntKind.i64.wrap ((i : Int) + 1) = ((i + 1 : Nat) : Int) := by rw [IntKind.wrap_i64]; omega
  unfold nodeV at hx hg
  simp [st2099, ndBox8, b2099_0, hi, hx, hw, hG, hg]

theorem loop2099 (E : Env) (cf : CallF) (m : Nat) (G : List SV → Option AV) (hG : E.pure 98 = some G) (nm : List UInt8) (d : Bool) (g : RowD → Nat) (xs : List SV) (hxl : xs.length < 1000000000) :
    ∀ (rest : List RowD) (pre : List SV) (i : Nat) (a : Int) (bx : List Box) (k : Nat), xs = pre ++ rest.map (skNode d) → i = pre.length →
      (∀ r ∈ rest, ∃ (n' : List UInt8) (kd' : Int) (b' : Bool) (j' : Int) (f' : Nat) (s' : List UInt8) (k' : List SV) (bb : Bool), G [skNode d r, .str nm] = some (.sv (.tup [nodeV n' kd' b' j' (g r : Int) f' s' k', .bool bb]))) → rest.length < k →
      ∃ bx', roundsA (evCA E cf m b2099_0) k (st2099 nm xs i a bx) = some (.exit 0, { nt := 29, tm := [(5, .sv (.int .u64 (sumW g a rest)))], lz := none, bx := bx', df := [] }) := by
  intro rest
  induction rest with
  | nil =>
    intro pre i a bx k hsp hi _ hk
    obtain ⟨k, rfl⟩ : ∃ k', k = k' + 1 := ⟨k - 1, by omega⟩
    have hlt : ¬ (i < xs.length) := by rw [hsp, hi]; simp
    refine ⟨bx, roundsA_out ?_ (by simp)⟩
    simp [st2099, b2099_0, hlt, sumW]
  | cons r rest ih =>
    intro pre i a bx k hsp hi hg hk
    obtain ⟨k, rfl⟩ : ∃ k', k = k' + 1 := ⟨k - 1, by omega⟩
    have hlt : i < xs.length := by rw [hsp, hi]; simp
    obtain ⟨q, hq⟩ := skNode_agg d r
    obtain ⟨n', kd', b', j', f', s', k', bb, hgr⟩ := hg r (by simp)
    have hq' : skNode d r = nodeV [] 8 false 0 0 0 [] q := hq
    have hx : ∀ h : i < xs.length, xs[i]'h = nodeV [] 8 false 0 0 0 [] q := by subst hi; subst hsp; intro h; rw [← hq']; simp
    rw [hq'] at hgr
    rw [roundsA_step (step2099 E cf m G hG nm xs hxl i hlt a bx _ _ _ _ _ _ _ q n' kd' b' j' _ f' s' k' bb hx hgr)]
    exact ih (pre ++ [skNode d r]) (i + 1) _ _ k (by rw [hsp]; simp) (by simp [hi]) (fun q hq => hg q (by simp [hq])) (by simp at hk; omega)

def nTx : List UInt8 := [84, 120, 81, 117, 101, 117, 101]
def nRx : List UInt8 := [82, 120, 81, 117, 101, 117, 101]

theorem skNode_kids {d : Bool} {r : RowD} (h : skOk d r = true) : ∃ q, skNode d r = nodeV [] 8 false 0 0 0 [] q ∧ q.length = 11 ∧ (∀ v ∈ q, IsN8 v) ∧ kidV nTx q = nodeV nTx 3 false 0 (f4 r : Int) 0 [] [] ∧ kidV nRx q = nodeV nRx 3 false 0 (f5 r : Int) 0 [] [] ∧ (d = true → kidV nDr q = nodeV nDr 3 false 0 (f8 r : Int) 0 [] []) := by
  obtain ⟨n0, n1, n2, n3, n4, n5, n6, n7, n8, a, b, hs⟩ := skOk_spec h
  rw [skRow_eq hs]
  refine ⟨_, rfl, rfl, fun v hv => ?_, ?_, ?_, fun hd => ?_⟩
  · simp only [List.mem_cons, List.not_mem_nil, or_false] at hv
    rcases hv with rfl | rfl | rfl | rfl | rfl | rfl | rfl | rfl | rfl | rfl | rfl
    all_goals first
      | exact ⟨_, _, _, _, _, _, _, _, rfl⟩
      | (cases d <;> exact ⟨_, _, _, _, _, _, _, _, rfl⟩)
  · simp [kidV, ndName, nodeV, nTx, f4]
  · simp [kidV, ndName, nodeV, nRx, f5]
  · subst hd
    simp [kidV, ndName, nodeV, nDr, f8]

def S2099 (F : List SV → Option AV) : Prop := ∀ (d : Bool) (rs : List RowD), rs.length < 100000000 → (∀ r ∈ rs, skOk d r = true) →
  F [skTree d rs, .str nTx] = some (.sv (.int .u64 (sumW f4 0 rs))) ∧ F [skTree d rs, .str nRx] = some (.sv (.int .u64 (sumW f5 0 rs))) ∧ (d = true → F [skTree d rs, .str nDr] = some (.sv (.int .u64 (sumW f8 0 rs))))

theorem ev2099 (E : Env) (h : E.code 99 = some c2099) (h98 : Has E 98 S2098) : S2099 (autoF E 99) := by
  obtain ⟨G, hG, hg⟩ := h98
  intro d rs hl hok
  have key : ∀ (nm : List UInt8) (g : RowD → Nat), (∀ r ∈ rs, ∃ (n' : List UInt8) (kd' : Int) (b' : Bool) (j' : Int) (f' : Nat) (s' : List UInt8) (k' : List SV) (bb : Bool), G [skNode d r, .str nm] = some (.sv (.tup [nodeV n' kd' b' j' (g r : Int) f' s' k', .bool bb]))) → autoF E 99 [skTree d rs, .str nm] = some (.sv (.int .u64 (sumW g 0 rs))) := by
    intro nm g hgr
    obtain ⟨bx', he⟩ := loop2099 E (evF E (rs.length + 1)) (rs.length + 1) G hG nm d g (rs.map (skNode d)) (by simp; omega) rs [] 0 0 [ndBox8 [] 6 false 0 0 0 [] (rs.map (skNode d))] (rs.length + 1) rfl rfl hgr (by omega)
    refine autoA_sv (n := rs.length + 1) ?_ rfl
    unfold evPA
    simp only [h]
    unfold skTree nodeV
    generalize rs.map (skNode d) = xs at *
    generalize sumW g 0 rs = w at *
    simp only [st2099, ndBox8, Int.ofNat_zero, Int.natCast_zero] at he
    simp [c2099, he]
  have row : ∀ (nm : List UInt8) (g : RowD → Nat), (∀ r ∈ rs, ∃ q, skNode d r = nodeV [] 8 false 0 0 0 [] q ∧ q.length = 11 ∧ (∀ v ∈ q, IsN8 v) ∧ kidV nm q = nodeV nm 3 false 0 (g r : Int) 0 [] []) → autoF E 99 [skTree d rs, .str nm] = some (.sv (.int .u64 (sumW g 0 rs))) := by
    intro nm g hq
    refine key nm g fun r hr => ?_
    obtain ⟨q, e1, e2, e3, e4⟩ := hq r hr
    refine ⟨nm, 3, false, 0, 0, [], [], hasK nm q, ?_⟩
    rw [e1, hg _ _ _ _ _ _ _ q nm (by omega) e3, e4]
  refine ⟨row nTx f4 fun r hr => ?_, row nRx f5 fun r hr => ?_, fun hd => row nDr f8 fun r hr => ?_⟩
  · obtain ⟨q, e1, e2, e3, e4, e5, e6⟩ := skNode_kids (hok r hr)
    exact ⟨q, e1, e2, e3, e4⟩
  · obtain ⟨q, e1, e2, e3, e4, e5, e6⟩ := skNode_kids (hok r hr)
    exact ⟨q, e1, e2, e3, e5⟩
  · obtain ⟨q, e1, e2, e3, e4, e5, e6⟩ := skNode_kids (hok r hr)
    exact ⟨q, e1, e2, e3, e6 hd⟩

theorem sumW_one : ∀ (rs : List RowD) (a : Nat), a + rs.length < 18446744073709551616 → sumW one (a : Int) rs = ((a + rs.length : Nat) : Int)
  | [], a, _ => rfl
  | r :: rs, a, h => by
    simp only [List.length_cons] at h
    have hw : IntKind.u64.wrap ((a : Int) + ((one r : Nat) : Int)) = ((a + 1 : Nat) : Int) := by
      simp only [one]
      rw [IntKind.wrap_u64]; omega
    simp only [sumW]
    rw [hw, sumW_one rs (a + 1) (by omega)]
    simp only [List.length_cons]
    congr 1
    omega

def S2037 (F : List SV → Option AV) : Prop := ∀ rs : List RowD, rs.length < 100000000 → (∀ r ∈ rs, skOk false r = true) → F [skTree false rs, smTree rs, .bool false] = some (.sv (.bool true))

set_option maxHeartbeats 2000000 in
theorem ev2037 (E : Env) (h : E.code 37 = some c2037) (h98 : Has E 98 S2098) (h99 : Has E 99 S2099) : S2037 (autoF E 37) := by
  obtain ⟨G, hG, hg⟩ := h98
  obtain ⟨H, hH, hh⟩ := h99
  intro rs hl hok
  obtain ⟨t1, t2, _⟩ := hh false rs hl hok
  have hone : sumW one 0 rs = (rs.length : Int) := by
    have := sumW_one rs 0 (by omega)
    simpa using this
  have hn : ∀ v ∈ [nodeV nTQL 3 false 0 (sumW f4 0 rs) 0 [] [], nodeV nRQL 3 false 0 (sumW f5 0 rs) 0 [] [], nodeV nUS 3 false 0 (sumW one 0 rs) 0 [] [], nodeV nDr 0 false 0 0 0 [] []], IsN8 v := by
    intro v hv
    simp only [List.mem_cons, List.not_mem_nil, or_false] at hv
    rcases hv with rfl | rfl | rfl | rfl <;> exact ⟨_, _, _, _, _, _, _, _, rfl⟩
  have k1 := hg [] 8 false 0 0 0 [] _ nTQL (by simp) hn
  have k2 := hg [] 8 false 0 0 0 [] _ nRQL (by simp) hn
  have k3 := hg [] 8 false 0 0 0 [] _ nUS (by simp) hn
  have k4 := hg [] 8 false 0 0 0 [] _ nDr (by simp) hn
  clear hn hg hh
  have hw : IntKind.u64.wrap ((rs.length : Nat) : Int) = (rs.length : Int) := by rw [IntKind.wrap_u64]; omega
  simp only [kidV, hasK, ndName, nodeV, nTQL, nRQL, nUS, nDr] at k1 k2 k3 k4
  simp at k1 k2 k3 k4
  rw [hone] at k1 k2 k3 k4
  refine autoA_sv (n := 1) ?_ rfl
  unfold evPA
  simp only [h]
  unfold smTree
  rw [hone]
  have hlk : (rs.map (skNode false)).length = rs.length := by simp
  unfold skTree at *
  simp only [nodeV, nTQL, nRQL, nUS, nDr, nTx, nRx] at *
  generalize rs.map (skNode false) = xs at *
  generalize sumW f4 0 rs = a at *
  generalize sumW f5 0 rs = b at *
  simp [c2037, hG, k1, k2, k3, k4, hH, t1, t2, hlk, hw]

def SPrint4t (F : List SV → Option AV) : Prop := ∀ l : List RowD, rowsFit4 l → F [.sl (rowsSV l)] = some (.sv (.tup (if l.all (skOk false) = true then [.str (skText false l), .int .i64 1] else [.str [], .int .i64 2])))

theorem ev1027w (E : Env) (h : E.code 35 = some c1027) (h68 : Has E 70 S1068) (h69 : Has E 71 S1069) : SPrint4t (autoF E 35) := by
  obtain ⟨F, hp, hF⟩ := h68
  obtain ⟨G, hq, hG⟩ := h69
  intro l hl
  have hF1 := hF false l hl
  refine autoA_sv (n := 1) ?_ rfl
  unfold evPA
  simp only [h]
  cases ha : l.all (skOk false) with
  | false =>
    rw [ha] at hF1
    rw [if_neg (by simp)]
    simp [c1027, hp, hF1]
  | true =>
    rw [ha] at hF1
    have hG1 := hG false l hl (List.all_eq_true.1 ha)
    rw [if_pos rfl]
    generalize skText false l = o at *
    simp [c1027, hp, hF1, hq, hG1]

set_option maxHeartbeats 4000000 in
theorem ev2010 (E : Env) (h : E.code 10 = some c2010) (h15 : E.pure 24 = some F1015) (h25 : E.pure 29 = some F25) (hP : Has E 35 SPrint4t) (hT : Has E 26 SDoor_tcp) (hU : Has E 36 SDoor_sm) (h37 : Has E 37 S2037) (l : List RowD) (hn : ∀ r ∈ l, ∀ n ∈ r.N, n < 18446744073709551616) (n : Nat) : evP E n 10 [.sl (rowsSV l)] = some (.sv (.bool true)) := by
  refine evP_of_A ?_
  obtain ⟨FP, hpP, hFP⟩ := hP
  obtain ⟨FT, hpT, hFT⟩ := hT
  obtain ⟨FU, hpU, hFU⟩ := hU
  obtain ⟨FV, hpV, hFV⟩ := h37
  unfold evPA
  simp only [h]
  have hF := F1015_eq l
  cases hz : zzRows l with
  | false => rw [hz] at hF; simp [c2010, h15, hF]
  | true =>
    rw [hz] at hF
    have hf := zzRows_four hz hn
    have hp := hFP l hf
    cases hx : l.all (skOk false) with
    | false =>
      rw [if_neg (by simp [hx])] at hp
      simp [c2010, h15, hF, hpP, hp]
    | true =>
      rw [if_pos hx] at hp
      have hok := List.all_eq_true.1 hx
      by_cases hl : 200 < l.length
      · have hl' : (200 : Int) < (l.length : Int) := by omega
        have hrl : (rowsSV l).length = l.length := by simp [rowsSV]
        generalize rowsSV l = R at *
        generalize skText false l = o at *
        simp [c2010, h15, hF, hpP, hp, hrl, hl, hl']
      · have hl' : ¬ (200 : Int) < (l.length : Int) := by omega
        have ho := skText_len3 hok
        have hrd := skRead_text (drops := false) hok
        have ht := hFT _ l hrd (by omega)
        have hu := hFU _ l hrd (by omega)
        have hv := hFV l (by omega) hok
        have hrl : (rowsSV l).length = l.length := by simp [rowsSV]
        unfold skTree smTree nodeV at *
        generalize rowsSV l = R at *
        generalize skText false l = o at *
        generalize l.map (skNode false) = xs at *
        generalize sumW f4 0 l = a at *
        generalize sumW f5 0 l = b at *
        generalize sumW one 0 l = u at *
        simp [c2010, h15, hF, hpP, hp, hrl, hl, hl', hpT, ht, hpU, hu, hpV, hv, h25, F25]

end Go.Ev

set_option linter.unusedSimpArgs false
set_option linter.unusedVariables false
namespace Go.Ev
open Go.Proofs

def smE (a b u : Int) (z : Cell) : Box := .live [.sv (.int .u64 a), .sv (.int .u64 b), .sv (.int .u64 u), z]

def st2211d (s t : List UInt8) (a b u w : Int) (z : Cell) : SA := { nt := 79, tm := [(11, .ptr 2 0), (9, .ptr 1 0), (8, .ptr 0 0), (1, .sv (.bool true))], lz := none, bx := [smE a b u z, .live [.sv (.int .u64 w)], scanBox s t], df := [131], lk := true }

theorem skCells_ft {r : RowD} (h : skOk true r = true) : ∃ x0 x1 x2 x3 x4 x5 x8 x9, skCells true r = [x0, x1, x2, x3, x4, x5, .int .u64 (f4 r), .int .u64 (f5 r), x8, x9, .ref [.int .u64 (f8 r)]] := by
  obtain ⟨n0, n1, n2, n3, n4, n5, n6, n7, n8, a, b, hs⟩ := skOk_spec h
  rw [skRow_eq hs]
  exact ⟨_, _, _, _, _, _, _, _, rfl⟩

set_option maxHeartbeats 4000000 in
theorem loop2211d (E : Env) (N m : Nat) (h88 : E.code 133 = some c88) (h90 : E.code 135 = some c90) (h127 : E.pure 201 = some F127) (h59 : Has E 225 S1159) (hp88 : E.pure 133 = none) (hp90 : E.pure 135 = none) :
    ∀ (rs : List RowD) (s t : List UInt8) (a b u w : Int) (z : Cell) (k : Nat), skTabV true (lineG [] s) = some rs → (∀ c ∈ s, plainC c = true) → (∀ r ∈ rs, skOk true r = true) → s.length ≤ 65000 → s.length < N → rs.length < k →
      roundsA (evCA E (evF E (N + 1)) m b2211_0) k (st2211d s t a b u w z) =
        some (.exit 0, { nt := 79, tm := [(11, .ptr 2 0), (8, .ptr 0 0)], lz := none, bx := [smE (sumW f4 a rs) (sumW f5 b rs) (sumW one u rs) (if rs.isEmpty then z else .lnk 1 0), .live [.sv (.int .u64 (sumW f8 w rs))], scanBox [] []], df := [131], lk := true }) := by
  obtain ⟨F, hp, hF⟩ := h59
  intro rs
  induction rs with
  | nil =>
    intro s t a b u w z k hn hpl _ hl hN hk
    obtain ⟨k, rfl⟩ : ∃ k', k = k' + 1 := ⟨k - 1, by omega⟩
    rcases skTab_cons hn with ⟨rfl, _⟩ | ⟨line, rest, r, rs', _, _, _, e, _⟩
    · have hs := scan88e E h88 2 [smE a b u z, .live [.sv (.int .u64 w)], scanBox [] t] t rfl N
      simp only [List.set_cons_zero, List.set_cons_succ] at hs
      refine roundsA_out ?_ (by simp)
      simp only [smE] at hs
      simp [b2211_0, st2211d, hp88, hs, sumW, smE]
    · cases e
  | cons r rs ih =>
    intro s t a b u w z k hn hpl hok hl hN hk
    obtain ⟨k, rfl⟩ : ∃ k', k = k' + 1 := ⟨k - 1, by omega⟩
    rcases skTab_cons hn with ⟨_, e⟩ | ⟨line, rest, r', rs', h1, h3, hv, e, hn'⟩
    · cases e
    · simp only [List.cons.injEq] at e
      obtain ⟨rfl, rfl⟩ := e
      have hll : line.length ≤ s.length ∧ rest.length ≤ s.length ∧ (∀ c ∈ line, plainC c = true) ∧ (∀ c ∈ rest, plainC c = true) := by
        rcases h3 with rfl | ⟨rfl, rfl, _⟩
        · refine ⟨by simp, by simp; omega, fun c hc => hpl c (by simp [hc]), fun c hc => hpl c (by simp [hc])⟩
        · exact ⟨by omega, by simp, hpl, by simp⟩
      obtain ⟨l1, l2, l3, l4⟩ := hll
      have hsc := scanG2 E h88 s t line rest h1 h3 (by omega) (fun c hc => (plain_lt (hpl c hc)).2) (smE a b u z) (.live [.sv (.int .u64 w)]) N hN
      have htx := evF90 E h90 N 2 [smE a b u z, .live [.sv (.int .u64 w)], scanBox rest line] rest line rfl
      have hF1 : F127 [.str line] = some (.sv (.sl (strs (fieldsL line)))) := by
        have := F127_eq line (by omega) (fun c hc => (plain_lt (l3 c hc)).1)
        rw [words_fields (fun c hc => ⟨l3 c hc, h1 c hc⟩)] at this
        exact this
      have hF2 := hF true (fieldsL line) r hv (hok r (by simp)) (fun x hx => by
        obtain ⟨_, _, k2⟩ := fieldsV_shape line
        have := k2 x hx; omega)
      have he := ih rest line (IntKind.u64.wrap (a + (f4 r : Int))) (IntKind.u64.wrap (b + (f5 r : Int))) (IntKind.u64.wrap (u + 1)) (IntKind.u64.wrap (w + (f8 r : Int))) (.lnk 1 0) k hn' l4 (fun q hq => hok q (by simp [hq])) (by omega) (by omega) (by simp at hk; omega)
      obtain ⟨x0, x1, x2, x3, x4, x5, x8, x9, hcs⟩ := skCells_ft (hok r (by simp))
      have hst : evCA E (evF E (N + 1)) m b2211_0 (st2211d s t a b u w z) = some (.normal, st2211d rest line (IntKind.u64.wrap (a + (f4 r : Int))) (IntKind.u64.wrap (b + (f5 r : Int))) (IntKind.u64.wrap (u + 1)) (IntKind.u64.wrap (w + (f8 r : Int))) (.lnk 1 0)) := by
        rw [hcs] at hF2
        generalize strs (fieldsL line) = fl at *
        simp only [smE] at hsc htx
        simp [b2211_0, st2211d, smE, hp88, hp90, hsc, htx, h127, hF1, hp, hF2]
      rw [roundsA_step hst, he]
      cases rs <;> rfl

/-- The sum of the drops, if there is a row. -/
def drV (rs : List RowD) : SV := if rs.isEmpty then .nilP else .ref [.int .u64 (sumW f8 0 rs)]

def smCellsD (rs : List RowD) : List SV := [.int .u64 (sumW f4 0 rs), .int .u64 (sumW f5 0 rs), .int .u64 (sumW one 0 rs), drV rs]

def SSummD (F : List SV → Option AV) : Prop := ∀ (s : List UInt8) (rs : List RowD), skRead true s = some rs → s.length ≤ 65000 → F [.str s, .bool true] = some (.sv (.tup [.ref (smCellsD rs), .nilI]))

set_option maxHeartbeats 4000000 in
theorem ev2211d (E : Env) (h : E.code 211 = some c2211) (h87 : E.code 132 = some c87) (h88 : E.code 133 = some c88) (h90 : E.code 135 = some c90) (h128 : E.code 202 = some c128) (hq : E.quiet 131 = true) (h84 : E.pure 129 = some F84) (h127 : E.pure 201 = some F127) (h59 : Has E 225 S1159) (hp87 : E.pure 132 = none) (hp88 : E.pure 133 = none) (hp90 : E.pure 135 = none) (hp128 : E.pure 202 = none) : SSummD (autoF E 211) := by
  intro s rs hr hs
  obtain ⟨rest, g1, g2, g3, g4⟩ := skRead_spec hr
  have hrl : rest.length ≤ 65000 ∧ rest.length < s.length := by rw [g1] at hs ⊢; simp at hs ⊢; omega
  obtain ⟨f1, f2⟩ := skRows_fit6 g3 hrl.1
  have hlen : rs.length ≤ rest.length + 1 := by
    obtain ⟨_, k1, k2⟩ := linesV_shape rest
    obtain ⟨g1, g2⟩ := skTabV_fit (B := 65000) (by omega) g3 (fun x hx => by have := k2 x hx; omega)
    omega
  rw [linesL_eq] at g3
  have hpr : ∀ c ∈ rest, plainC c = true := fun c hc => g2 c (by rw [g1]; simp [hc])
  have e87 := evF87 E h87 (s.length + 1) [smE 0 0 0 (.sv .nilP), .live [.sv (.int .u64 0)]] s
  have hsc := scanG2 E h88 s [] skHeadL rest (by decide) (.inl g1) (by omega) (fun c hc => (plain_lt (g2 c hc)).2) (smE 0 0 0 (.sv .nilP)) (.live [.sv (.int .u64 0)]) (s.length + 1) (by omega)
  have hl := loop2211d E (s.length + 1) (s.length + 2) h88 h90 h127 h59 hp88 hp90 rs rest skHeadL 0 0 0 0 (.sv .nilP) (s.length + 2) g3 hpr g4 hrl.1 (by omega) (by omega)
  have e128 := evF128 E h128 (s.length + 1) 2 [smE (sumW f4 0 rs) (sumW f5 0 rs) (sumW one 0 rs) (if rs.isEmpty then .sv .nilP else .lnk 1 0), .live [.sv (.int .u64 (sumW f8 0 rs))], scanBox [] []] [] [] rfl
  clear g1 g2 g3 g4 hpr hr f1 f2 hlen
  refine autoA_sv (n := s.length + 2) ?_ rfl
  unfold evPA
  simp only [h]
  unfold smCellsD drV
  generalize skHeadL = hd at *
  simp only [st2211d, smE, scanBox, List.length_cons, List.length_nil, List.cons_append, List.nil_append] at *
  generalize sumW f4 0 rs = x4 at *
  generalize sumW f5 0 rs = x5 at *
  generalize sumW f8 0 rs = x8 at *
  generalize sumW one 0 rs = x1 at *
  cases hrs : rs.isEmpty with
  | true =>
    simp only [hrs, if_true] at *
    simp [c2211, h84, F84, hq, hp87, hp88, hp128, e87, hsc, hl, e128]
  | false =>
    simp only [hrs, Bool.false_eq_true, if_false] at *
    simp [c2211, h84, F84, hq, hp87, hp88, hp128, e87, hsc, hl, e128]

/-! ### The summary's way up -/

def SNs_smD (F : List SV → Option AV) : Prop := ∀ (s : List UInt8) (rs : List RowD), skRead true s = some rs → s.length ≤ 65000 → F [.str s] = some (.sv (.tup [.ref (smCellsD rs), .nilI]))

theorem ev2189 (E : Env) (h : E.code 189 = some c2189) (h44 : Has E 211 SSummD) : SNs_smD (autoF E 189) := by
  obtain ⟨F, hp, hF⟩ := h44
  intro s rs hr hs
  have hF1 := hF s rs hr hs
  refine autoA_sv (n := 1) ?_ rfl
  unfold evPA
  simp only [h]
  unfold smCellsD drV at *
  cases hrs : rs.isEmpty with
  | true =>
    simp only [hrs, if_true] at *
    simp [c2189, hp, hF1]
  | false =>
    simp only [hrs, Bool.false_eq_true, if_false] at *
    simp [c2189, hp, hF1]

def SFs_smD (F : List SV → Option AV) : Prop := ∀ (s : List UInt8) (rs : List RowD), skRead true s = some rs → s.length ≤ 65000 → F [.agg [.str s]] = some (.sv (.tup [.ref (smCellsD rs), .nilI]))

theorem ev2101 (E : Env) (h : E.code 101 = some c2101) (h85 : E.pure 130 = some F85) (hN : Has E 189 SNs_smD) : SFs_smD (autoF E 101) := by
  obtain ⟨F, hp, hF⟩ := hN
  intro s rs hr hs
  have hF1 := hF s rs hr hs
  refine autoA_sv (n := 1) ?_ rfl
  unfold evPA
  simp only [h]
  generalize smCellsD rs = cs at *
  simp [c2101, h85, F85, hp, hF1]

/-- The node of the drops. -/
def drN (rs : List RowD) : SV := if rs.isEmpty then nodeV nDr 0 false 0 0 0 [] [] else nodeV nDr 3 false 0 (sumW f8 0 rs) 0 [] []

/-- The summary as a tree. -/
def smTreeD (rs : List RowD) : SV := nodeV [] 8 false 0 0 0 [] [nodeV nTQL 3 false 0 (sumW f4 0 rs) 0 [] [], nodeV nRQL 3 false 0 (sumW f5 0 rs) 0 [] [], nodeV nUS 3 false 0 (sumW one 0 rs) 0 [] [], drN rs]

def S2190 (F : List SV → Option AV) : Prop := ∀ (nm : List UInt8) (u : Int), F [.str nm, .int .u64 u] = some (.sv (nodeV nm 3 false 0 u 0 [] []))

theorem ev2190 (E : Env) (h : E.code 190 = some c2190) : S2190 (autoF E 190) := by
  intro nm u
  refine autoA_sv (n := 1) ?_ rfl
  unfold evPA
  simp only [h]
  simp [c2190, nodeV]

def S1145d (F : List SV → Option AV) : Prop := (∀ nm : List UInt8, F [.str nm, .nilP, .fn 190 [] []] = some (.sv (nodeV nm 0 false 0 0 0 [] []))) ∧
  ∀ (nm : List UInt8) (u : Int), F [.str nm, .ref [.int .u64 u], .fn 190 [] []] = some (.sv (nodeV nm 3 false 0 u 0 [] []))

theorem ev1145d (E : Env) (h : E.code 186 = some c1145) (h90 : Has E 190 S2190) : S1145d (autoF E 186) := by
  obtain ⟨F, hp, hF⟩ := h90
  have hF' : ∀ (nm : List UInt8) (u : Int), F [.str nm, .int .u64 u] = some (.sv (.agg [.str nm, .int .i64 3, .bool false, .int .i64 0, .int .u64 u, .flt .f64 0, .str [], .sl []])) := hF
  refine ⟨fun nm => ?_, fun nm u => ?_⟩
  · refine autoA_sv (n := 1) ?_ rfl
    unfold evPA
    simp only [h]
    simp [c1145, nodeV]
  · refine autoA_sv (n := 1) ?_ rfl
    unfold evPA
    simp only [h]
    simp [c1145, nodeV, hp, hF']

def S2104 (F : List SV → Option AV) : Prop := ∀ rs : List RowD, F [.str [], .agg (smCellsD rs)] = some (.sv (smTreeD rs))

theorem ev2104 (E : Env) (h : E.code 104 = some c2104) (h45 : Has E 186 S1145d) : S2104 (autoF E 104) := by
  obtain ⟨F, hp, hF1, hF2⟩ := h45
  intro rs
  have k1 := hF1 nDr
  have k2 := hF2 nDr (sumW f8 0 rs)
  refine autoA_sv (n := 1) ?_ rfl
  unfold evPA
  simp only [h]
  unfold smTreeD smCellsD drV drN nTQL nRQL nUS nDr nodeV at *
  generalize sumW f4 0 rs = a at *
  generalize sumW f5 0 rs = b at *
  generalize sumW one 0 rs = u at *
  generalize sumW f8 0 rs = w at *
  cases hrs : rs.isEmpty with
  | true =>
    simp only [if_true] at *
    simp [c2104, hp, k1]
  | false =>
    simp only [Bool.false_eq_true, if_false] at *
    simp [c2104, hp, k2]

def S2103 (F : List SV → Option AV) : Prop := ∀ rs : List RowD, F [.str [], .ref (smCellsD rs), .fn 104 [] []] = some (.sv (smTreeD rs))

theorem ev2103 (E : Env) (h : E.code 103 = some c2103) (h04 : Has E 104 S2104) : S2103 (autoF E 103) := by
  obtain ⟨F, hp, hF⟩ := h04
  intro rs
  have hF1 := hF rs
  refine autoA_sv (n := 1) ?_ rfl
  unfold evPA
  simp only [h]
  unfold smTreeD smCellsD drV drN nTQL nRQL nUS nDr nodeV at *
  generalize sumW f4 0 rs = a at *
  generalize sumW f5 0 rs = b at *
  generalize sumW one 0 rs = u at *
  generalize sumW f8 0 rs = w at *
  cases hrs : rs.isEmpty with
  | true =>
    simp only [hrs, if_true] at *
    simp [c2103, hp, hF1]
  | false =>
    simp only [hrs, Bool.false_eq_true, if_false] at *
    simp [c2103, hp, hF1]

def S2102 (F : List SV → Option AV) : Prop := ∀ rs : List RowD, F [.ref (smCellsD rs)] = some (.sv (smTreeD rs))

theorem ev2102 (E : Env) (h : E.code 102 = some c2102) (h03 : Has E 103 S2103) : S2102 (autoF E 102) := by
  obtain ⟨F, hp, hF⟩ := h03
  intro rs
  have hF1 := hF rs
  refine autoA_sv (n := 1) ?_ rfl
  unfold evPA
  simp only [h]
  unfold smTreeD nodeV at *
  generalize smCellsD rs = cs at *
  simp [c2102, hp, hF1]

def STr_smD (F : List SV → Option AV) : Prop := ∀ (s : List UInt8) (rs : List RowD), skRead true s = some rs → s.length ≤ 65000 → F [.fn 101 [.agg [.str s]] [], .fn 102 [] []] = some (.sv (.tup [smTreeD rs, .int .i64 0]))

theorem ev2100 (E : Env) (h : E.code 100 = some c2100) (hq : E.quiet 188 = true) (hS : Has E 101 SFs_smD) (hC : Has E 102 S2102) : STr_smD (autoF E 100) := by
  obtain ⟨F, hp, hF⟩ := hS
  obtain ⟨G, hg, hG⟩ := hC
  intro s rs hr hs
  have hF1 := hF s rs hr hs
  have hG1 := hG rs
  refine autoA_sv (n := 1) ?_ rfl
  unfold evPA
  simp only [h]
  unfold smTreeD nodeV at *
  generalize smCellsD rs = cs at *
  simp [c2100, hp, hF1, hg, hG1, hq]

def SDoor_smD (F : List SV → Option AV) : Prop := ∀ (s : List UInt8) (rs : List RowD), skRead true s = some rs → s.length ≤ 65000 → F [.str s] = some (.sv (.tup [smTreeD rs, .int .i64 0]))

theorem ev2038 (E : Env) (h : E.code 38 = some c2038) (h38 : E.pure 55 = some F38) (hT : Has E 100 STr_smD) : SDoor_smD (autoF E 38) := by
  obtain ⟨F, hp, hF⟩ := hT
  intro s rs hr hs
  have hF1 := hF s rs hr hs
  refine autoA_sv (n := 1) ?_ rfl
  unfold evPA
  simp only [h]
  unfold smTreeD nodeV at *
  simp [c2038, h38, F38, hp, hF1]

end Go.Ev

set_option linter.unusedSimpArgs false
set_option linter.unusedVariables false
namespace Go.Ev
open Go.Proofs

def S2037d (F : List SV → Option AV) : Prop := ∀ rs : List RowD, rs.length < 100000000 → (∀ r ∈ rs, skOk true r = true) → F [skTree true rs, smTreeD rs, .bool true] = some (.sv (.bool true))

set_option maxHeartbeats 4000000 in
theorem ev2037d (E : Env) (h : E.code 37 = some c2037) (h98 : Has E 98 S2098) (h99 : Has E 99 S2099) : S2037d (autoF E 37) := by
  obtain ⟨G, hG, hg⟩ := h98
  obtain ⟨H, hH, hh⟩ := h99
  intro rs hl hok
  obtain ⟨t1, t2, t3⟩ := hh true rs hl hok
  have t3 := t3 rfl
  have hone : sumW one 0 rs = (rs.length : Int) := by
    have := sumW_one rs 0 (by omega)
    simpa using this
  have hd : IsN8 (drN rs) := by
    unfold drN
    split <;> exact ⟨_, _, _, _, _, _, _, _, rfl⟩
  have hn : ∀ v ∈ [nodeV nTQL 3 false 0 (sumW f4 0 rs) 0 [] [], nodeV nRQL 3 false 0 (sumW f5 0 rs) 0 [] [], nodeV nUS 3 false 0 (sumW one 0 rs) 0 [] [], drN rs], IsN8 v := by
    intro v hv
    simp only [List.mem_cons, List.not_mem_nil, or_false] at hv
    rcases hv with rfl | rfl | rfl | rfl
    · exact ⟨_, _, _, _, _, _, _, _, rfl⟩
    · exact ⟨_, _, _, _, _, _, _, _, rfl⟩
    · exact ⟨_, _, _, _, _, _, _, _, rfl⟩
    · exact hd
  have k1 := hg [] 8 false 0 0 0 [] _ nTQL (by simp) hn
  have k2 := hg [] 8 false 0 0 0 [] _ nRQL (by simp) hn
  have k3 := hg [] 8 false 0 0 0 [] _ nUS (by simp) hn
  have k4 := hg [] 8 false 0 0 0 [] _ nDr (by simp) hn
  clear hn hg hh hd
  have hw : IntKind.u64.wrap ((rs.length : Nat) : Int) = (rs.length : Int) := by rw [IntKind.wrap_u64]; omega
  refine autoA_sv (n := 1) ?_ rfl
  unfold evPA
  simp only [h]
  unfold smTreeD
  rw [hone] at k1 k2 k3 k4 ⊢
  have hlk : (rs.map (skNode true)).length = rs.length := by simp
  unfold skTree at *
  unfold drN at *
  cases hrs : rs.isEmpty with
  | true =>
    have hz : rs.length = 0 := by simpa using hrs
    simp only [hrs, if_true] at *
    simp only [kidV, hasK, ndName, nodeV, nTQL, nRQL, nUS, nDr] at k1 k2 k3 k4
    simp at k1 k2 k3 k4
    simp only [nodeV, nTQL, nRQL, nUS, nDr, nTx, nRx] at *
    generalize rs.map (skNode true) = xs at *
    generalize sumW f4 0 rs = a at *
    generalize sumW f5 0 rs = b at *
    generalize sumW f8 0 rs = c at *
    have hxs : xs = [] := List.eq_nil_of_length_eq_zero (by rw [hlk, hz])
    subst hxs
    simp only [hz, Int.ofNat_zero, Int.natCast_zero] at k1 k2 k3 k4 hw ⊢
    simp [c2037, hG, k1, k2, k3, k4, hH, t1, t2, t3, hw]
  | false =>
    have hz : rs.length ≠ 0 := by
      intro e
      have : rs = [] := List.eq_nil_of_length_eq_zero e
      subst this; simp at hrs
    have hz2 : ((rs.length : Int) == 0) = false := by simpa using hz
    simp only [hrs, Bool.false_eq_true, if_false] at *
    simp only [kidV, hasK, ndName, nodeV, nTQL, nRQL, nUS, nDr] at k1 k2 k3 k4
    simp at k1 k2 k3 k4
    simp only [nodeV, nTQL, nRQL, nUS, nDr, nTx, nRx] at *
    generalize rs.map (skNode true) = xs at *
    generalize sumW f4 0 rs = a at *
    generalize sumW f5 0 rs = b at *
    generalize sumW f8 0 rs = c at *
    simp [c2037, hG, k1, k2, k3, k4, hH, t1, t2, t3, hlk, hw, hz, hz2]

set_option maxHeartbeats 4000000 in
theorem ev2011 (E : Env) (h : E.code 11 = some c2011) (h15 : E.pure 24 = some F1015) (h25 : E.pure 29 = some F25) (hP : Has E 25 SPrint4) (hT : Has E 27 SDoor_udp) (hU : Has E 38 SDoor_smD) (h37 : Has E 37 S2037d) (l : List RowD) (hn : ∀ r ∈ l, ∀ n ∈ r.N, n < 18446744073709551616) (n : Nat) : evP E n 11 [.sl (rowsSV l)] = some (.sv (.bool true)) := by
  refine evP_of_A ?_
  obtain ⟨FP, hpP, hFP⟩ := hP
  obtain ⟨FT, hpT, hFT⟩ := hT
  obtain ⟨FU, hpU, hFU⟩ := hU
  obtain ⟨FV, hpV, hFV⟩ := h37
  unfold evPA
  simp only [h]
  have hF := F1015_eq l
  cases hz : zzRows l with
  | false => rw [hz] at hF; simp [c2011, h15, hF]
  | true =>
    rw [hz] at hF
    have hf := zzRows_four hz hn
    have hp := hFP l hf
    cases hx : l.all (skOk true) with
    | false =>
      rw [if_neg (by simp [hx])] at hp
      simp [c2011, h15, hF, hpP, hp]
    | true =>
      rw [if_pos hx] at hp
      have hok := List.all_eq_true.1 hx
      by_cases hl : 200 < l.length
      · have hl' : (200 : Int) < (l.length : Int) := by omega
        have hrl : (rowsSV l).length = l.length := by simp [rowsSV]
        generalize rowsSV l = R at *
        generalize skText true l = o at *
        simp [c2011, h15, hF, hpP, hp, hrl, hl, hl']
      · have hl' : ¬ (200 : Int) < (l.length : Int) := by omega
        have ho := skText_len3 hok
        have hrd := skRead_text (drops := true) hok
        have ht := hFT _ l hrd (by omega)
        have hu := hFU _ l hrd (by omega)
        have hv := hFV l (by omega) hok
        have hrl : (rowsSV l).length = l.length := by simp [rowsSV]
        unfold skTree smTreeD nodeV at *
        generalize rowsSV l = R at *
        generalize skText true l = o at *
        generalize l.map (skNode true) = xs at *
        generalize sumW f4 0 l = a at *
        generalize sumW f5 0 l = b at *
        generalize sumW one 0 l = u at *
        generalize drN l = dn at *
        simp [c2011, h15, hF, hpP, hp, hrl, hl, hl', hpT, ht, hpU, hu, hpV, hv, h25, F25]

end Go.Ev

set_option linter.unusedSimpArgs false
set_option linter.unusedVariables false
namespace Go.Proofs.YtgonelmeonncpaaGreatDoor
open Go.ChangeShapes Go.WideShapes Go.ChangeAt Go.RowKit Go.Ev

theorem own : ownKnob Tryz.prog.godebug = none := by kernel_rfl

def laid15 : List (String × DataW Unit) := Rows.fnUdpSummaryRow.laid

theorem glob_none {W : World} {F : Frz} (g : Nat) (h : globT g = []) : RepS F (.ref (globT g)) (.pointer (some ⟨g, 0, none⟩)) := by
  rw [h]
  exact .ref [] g 0 (fun _ => undef) (fun j hj => by simp at hj) (fun j x hx => by simp at hx) (fun j x hx => by simp at hx)

theorem cells_of {W : World} {name : String} {g : Nat} {cs : Array Value} (hg : Tryz.prog.globalNamed name = some g) (hv : W.var? Tryz.prog name = some cs) (j : Nat) (v : Value) (h : cs.toList[j]? = some v) : W.cell? ⟨g, j, none⟩ = some v := by
  rw [World.var?_cell hg hv j]
  simpa using h

theorem glob_ok {W : World} (hL : laidMetH Tryz.prog laid15 W) : GlobF E0 (fun b o v => W.cell? ⟨b, o, none⟩ = some v) := by
  rw [MakeChecks.laidMetH_plain _ _ _ (by kernel_rfl)] at hL
  obtain ⟨ps, ⟨g0, t0, cs0, f0, p0, q0, hg0, ht0, hv0, hd0, ⟨g1, t1, cs1, f1, p1, q1, hg1, ht1, hv1, hd1, ⟨g2, t2, cs2, f2, p2, q2, hg2, ht2, hv2, hd2, ⟨g3, t3, cs3, f3, p3, q3, hg3, ht3, hv3, hd3, ⟨g4, t4, cs4, f4, p4, q4, hg4, ht4, hv4, hd4, ⟨g5, t5, cs5, f5, p5, q5, hg5, ht5, hv5, hd5, ⟨g6, t6, cs6, f6, p6, q6, hg6, ht6, hv6, hd6, ⟨g7, t7, cs7, f7, p7, q7, hg7, ht7, hv7, hd7, ⟨g8, t8, cs8, f8, p8, q8, hg8, ht8, hv8, hd8, ⟨g9, t9, cs9, f9, p9, q9, hg9, ht9, hv9, hd9, ⟨g10, t10, cs10, f10, p10, q10, hg10, ht10, hv10, hd10, ⟨g11, t11, cs11, f11, p11, q11, hg11, ht11, hv11, hd11, ⟨g12, t12, cs12, f12, p12, q12, hg12, ht12, hv12, hd12, _, _⟩, _⟩, _⟩, _⟩, _⟩, _⟩, _⟩, _⟩, _⟩, _⟩, _⟩, _⟩, _⟩, _⟩ := hL
  clear hd0 hd1 hd5 hd7 hd9 hd10 hd11
  obtain rfl := Option.some.inj ((show Tryz.prog.globalNamed "internal/strconv.float32info" = some 6 by kernel_rfl).symm.trans hg2)
  obtain rfl := Option.some.inj ((show Tryz.prog.globalNamed "internal/strconv.float64info" = some 8 by kernel_rfl).symm.trans hg3)
  obtain rfl := Option.some.inj ((show Tryz.prog.globalNamed "internal/strconv.optimize" = some 7 by kernel_rfl).symm.trans hg4)
  obtain rfl := Option.some.inj ((show Tryz.prog.globalNamed "internal/strconv.float64pow10" = some 12 by kernel_rfl).symm.trans hg6)
  obtain rfl := Option.some.inj ((show Tryz.prog.globalNamed "internal/strconv.uint64pow10" = some 9 by kernel_rfl).symm.trans hg8)
  obtain rfl := Option.some.inj ((show Tryz.prog.globalNamed "strings.asciiSpace" = some 1 by kernel_rfl).symm.trans hg12)
  obtain rfl := Option.some.inj ((show (Tryz.prog.globals[6]?).map (·.type) = some 346 by kernel_rfl).symm.trans ht2)
  obtain rfl := Option.some.inj ((show (Tryz.prog.globals[8]?).map (·.type) = some 346 by kernel_rfl).symm.trans ht3)
  obtain rfl := Option.some.inj ((show (Tryz.prog.globals[7]?).map (·.type) = some 4 by kernel_rfl).symm.trans ht4)
  obtain rfl := Option.some.inj ((show (Tryz.prog.globals[12]?).map (·.type) = some 273 by kernel_rfl).symm.trans ht6)
  obtain rfl := Option.some.inj ((show (Tryz.prog.globals[9]?).map (·.type) = some 363 by kernel_rfl).symm.trans ht8)
  obtain rfl := Option.some.inj ((show (Tryz.prog.globals[1]?).map (·.type) = some 268 by kernel_rfl).symm.trans ht12)
  have x12 : Rows.laid_strings_asciiSpace = (.agg ((lits Rows.laid_strings_asciiSpace).map .lit) : DataW Unit) := by kernel_rfl
  have x8 : Rows.laid_internal_strconv_uint64pow10 = (.agg ((lits Rows.laid_internal_strconv_uint64pow10).map .lit) : DataW Unit) := by kernel_rfl
  have x2 : Rows.laid_internal_strconv_float32info = (.agg ((lits Rows.laid_internal_strconv_float32info).map .lit) : DataW Unit) := by kernel_rfl
  have x3 : Rows.laid_internal_strconv_float64info = (.agg ((lits Rows.laid_internal_strconv_float64info).map .lit) : DataW Unit) := by kernel_rfl
  have x4 : Rows.laid_internal_strconv_optimize = (.lit (unlit Rows.laid_internal_strconv_optimize) : DataW Unit) := by kernel_rfl
  have x6 : Rows.laid_internal_strconv_float64pow10 = (.slice ((lits Rows.laid_internal_strconv_float64pow10).map .lit) [] : DataW Unit) := by kernel_rfl
  have y12 := (congrArg (fun d => some (d, p12)) x12)
  have k12 := lits_of_array (e := 5) (n := 256) Tryz.underlying268 (by kernel_rfl) (by kernel_rfl) (hd12.trans (congrArg (fun d => some (d, p12)) x12))
  have k8 := lits_of_array (e := 32) (n := 20) Tryz.underlying363 (by kernel_rfl) (by kernel_rfl) (hd8.trans (congrArg (fun d => some (d, p8)) x8))
  have hst : ∀ (i : Nat) (f : Field), (#[{ name := "mantbits", type := 135, offset := 0, embedded := false, tag := "", pkgPath := "internal/strconv", byteOffset := 0 }, { name := "expbits", type := 135, offset := 1, embedded := false, tag := "", pkgPath := "internal/strconv", byteOffset := 8 }, { name := "bias", type := 3, offset := 2, embedded := false, tag := "", pkgPath := "internal/strconv", byteOffset := 16 }] : Array Field)[i]? = some f → f.offset = i ∧ Tryz.prog.cellsOf f.type = 1 := by
    intro i f hf
    have ct174 : Tryz.prog.cellsOf 135 = 1 := by kernel_rfl
    have ct3 : Tryz.prog.cellsOf 3 = 1 := by kernel_rfl
    match i, hf with
    | 0, hf => simp at hf; subst hf; exact ⟨rfl, ct174⟩
    | 1, hf => simp at hf; subst hf; exact ⟨rfl, ct174⟩
    | 2, hf => simp at hf; subst hf; exact ⟨rfl, ct3⟩
    | n + 3, hf => simp at hf
  have k2 := lits_of_struct Tryz.underlying346 hst (by kernel_rfl) (hd2.trans (congrArg (fun d => some (d, p2)) x2))
  have k3 := lits_of_struct Tryz.underlying346 hst (by kernel_rfl) (hd3.trans (congrArg (fun d => some (d, p3)) x3))
  have k4 := lit_cells (hd4.trans (congrArg (fun d => some (d, p4)) x4))
  have k6 := ref_of_slice (g := 12) (F := fun b o v => W.cell? ⟨b, o, none⟩ = some v) (e := 33) Tryz.underlying273 (by kernel_rfl) (by rw [← List.length_pos_iff]; exact of_decide_eq_true (by kernel_rfl)) (hd6.trans (congrArg (fun d => some (d, p6)) x6)) (fun _ _ _ h => h) (cells_of hg6 hv6)
  intro g
  have hg : g = 1 ∨ g = 6 ∨ g = 7 ∨ g = 8 ∨ g = 9 ∨ g = 12 ∨ globT g = [] := by
    unfold globT
    split <;> simp
  rcases hg with rfl | rfl | rfl | rfl | rfl | rfl | h
  · exact ref_of_lits k12 (cells_of hg12 hv12)
  · exact ref_of_lits k2 (cells_of hg2 hv2)
  · exact ref_of_lits (ls := [unlit Rows.laid_internal_strconv_optimize]) k4 (cells_of hg4 hv4)
  · exact ref_of_lits k3 (cells_of hg3 hv3)
  · exact ref_of_lits k8 (cells_of hg8 hv8)
  · exact k6
  · exact glob_none (W := W) g h

end Go.Proofs.YtgonelmeonncpaaGreatDoor

set_option linter.unusedSimpArgs false
set_option linter.unusedVariables false
namespace Go.Ev
open Go.Proofs Go.ChangeShapes Go.WideShapes

/-- The cells of a world, all of them. -/
def allC (w : World) : Frz := fun b o v => w.cell? ⟨b, o, none⟩ = some v

theorem spot_none {w : World} {a : Addr} {v : Value} (h : w.cell? a = some v) : a.spot = none := by
  unfold World.cell? at h
  split at h
  · split at h
    · simp at h
    · rename_i hs; simpa using hs
  · simp at h

theorem add_off {b o : Nat} (i : Nat) : (⟨b, o, none⟩ : Addr).add i = ⟨b, o + i, none⟩ := by
  unfold Addr.add
  split
  · rename_i h; subst h; rfl
  · rfl

/-- A slice whose elements take k cells each. -/
theorem rep_slice {w : World} {a : Addr} {len cap k : Nat} {xs : List SV} (hk : 0 < k) (hx : xs.length = len) (hcap : len ≤ cap) (hl : ∀ x ∈ xs, x.cells.length = k)
    (ho : ∀ (j : Nat) (x : SV), (flat xs)[j]? = some x → x.one = true) (hr : ∀ (j : Nat) (x : SV), (flat xs)[j]? = some x → ∃ v, w.cell? (a.add j) = some v ∧ RepS (allC w) x v) : RepS (allC w) (.sl xs) (.slice (some a) len cap) := by
  cases xs with
  | nil => simp only [List.length_nil] at hx; subst hx; exact .slE _ _
  | cons x xs =>
    subst hx
    have hfl : (flat (x :: xs)).length = (x :: xs).length * k := by
      have : ∀ ys : List SV, (∀ y ∈ ys, y.cells.length = k) → (flat ys).length = ys.length * k := by
        intro ys
        induction ys with
        | nil => intro _; simp [flat]
        | cons y ys ih => intro h; rw [flat_cons, List.length_append, ih (fun z hz => h z (by simp [hz])), h y (by simp), List.length_cons, Nat.succ_mul]; omega
      exact this _ hl
    have hpos : 0 < (flat (x :: xs)).length := by rw [hfl]; exact Nat.mul_pos (by simp) hk
    obtain ⟨v0, hv0, _⟩ := hr 0 _ (List.getElem?_eq_getElem hpos)
    have hs : a.spot = none := spot_none (by simpa [Addr.add] using hv0)
    obtain ⟨b, o, s⟩ := a
    simp only at hs
    subst hs
    refine .sl _ b o cap k (fun j => (w.cell? ⟨b, o + j, none⟩).getD undef) hk (by simp) hcap hl (fun j hj => ?_) ho (fun j y hy => ?_)
    · obtain ⟨v, hv, _⟩ := hr j _ (List.getElem?_eq_getElem (by rw [hfl]; exact hj))
      rw [add_off] at hv
      show w.cell? ⟨b, o + j, none⟩ = some _
      rw [hv]; rfl
    · obtain ⟨v, hv, h1⟩ := hr j y hy
      rw [add_off] at hv
      simp only [hv, Option.getD_some]
      exact h1

theorem flat_one {l : List SV} (h : ∀ x ∈ l, x.cells = [x]) : flat l = l := by
  induction l with
  | nil => rfl
  | cons x l ih => rw [flat_cons, h x (by simp), ih (fun y hy => h y (by simp [hy]))]; rfl

section
variable {H : Type} {enc : TypeId × Value → H} {P : Program} {w : World} {base : Nat} {spare : Nat → Bool} {held : Bool}

theorem rep_strs {t e : TypeId} {fuel : Nat} {cs : List Value} {x : DataW H × List MemPlace} (ht : P.underlying t = some (.slice e)) (he : P.underlying e = some .string) (hc : P.cellsOf e = 1)
    (h : DataW.trod enc P w base spare held fuel t cs = some x) : ∃ (v : Value) (S : List (List UInt8)), cs = [v] ∧ RepS (allC w) (.sl (Ev.strs S)) v := by
  rcases open_strings ht he hc h with ⟨rfl, _⟩ | ⟨a, len, cap, ss, rfl, _, hl, _, hss, _, hcell, _⟩
  · exact ⟨_, [], rfl, .slE _ _⟩
  · have hle : len ≤ ss.length := by rw [hss]; split <;> omega
    refine ⟨_, (ss.take len).map (fun s => s.data.toList), rfl, ?_⟩
    have hone : ∀ x ∈ Ev.strs ((ss.take len).map (fun s => s.data.toList)), x.cells = [x] := by
      intro x hx
      simp only [Ev.strs, List.mem_map] at hx
      obtain ⟨_, _, rfl⟩ := hx
      rfl
    refine rep_slice (k := 1) (by omega) (by simp [Ev.strs]; omega) hl (fun x hx => by rw [hone x hx]; rfl) (fun j x hx => ?_) (fun j x hx => ?_)
    · rw [flat_one hone] at hx
      simp only [Ev.strs, List.getElem?_map, Option.map_eq_some_iff] at hx
      obtain ⟨_, _, rfl⟩ := hx
      rfl
    · rw [flat_one hone] at hx
      simp only [Ev.strs, List.getElem?_map, Option.map_eq_some_iff] at hx
      obtain ⟨_, ⟨s, hs, rfl⟩, rfl⟩ := hx
      have hj : j < len := by have := (List.getElem?_eq_some_iff.1 hs).1; simp at this; omega
      rw [List.getElem?_take_of_lt hj] at hs
      refine ⟨_, hcell j (by omega), ?_⟩
      rw [List.getD_eq_getElem?_getD, hs]
      have e : (⟨s.data.toList.toArray⟩ : ByteArray) = s := by simp
      exact e ▸ RepS.str s.data.toList

theorem rep_ints {t e : TypeId} {fuel : Nat} {cs : List Value} {x : DataW H × List MemPlace} (ht : P.underlying t = some (.slice e)) (he : P.underlying e = some (.int .u64)) (hc : P.cellsOf e = 1)
    (h : DataW.trod enc P w base spare held fuel t cs = some x) : ∃ (v : Value) (N : List Nat), cs = [v] ∧ RepS (allC w) (.sl (u64s N)) v ∧ ∀ n ∈ N, n < 18446744073709551616 := by
  rcases open_ints ht he hc h with ⟨rfl, _⟩ | ⟨a, len, cap, zs, rfl, _, hl, _, hss, _, hcell, hwf⟩
  · exact ⟨_, [], rfl, .slE _ _, by simp⟩
  · have hle : len ≤ zs.length := by rw [hss]; split <;> omega
    have hz : ∀ z ∈ zs, 0 ≤ z ∧ z < 18446744073709551616 := by
      intro z hz
      have := hwf z hz
      have e1 : IntKind.u64.min = 0 := rfl
      have e2 : IntKind.u64.max = 18446744073709551615 := rfl
      simp only [Lit.wf, e1, e2, Bool.and_eq_true, decide_eq_true_eq] at this
      omega
    refine ⟨_, (zs.take len).map Int.toNat, rfl, ?_, ?_⟩
    · have hone : ∀ x ∈ u64s ((zs.take len).map Int.toNat), x.cells = [x] := by
        intro x hx
        simp only [u64s, List.mem_map] at hx
        obtain ⟨_, _, rfl⟩ := hx
        rfl
      refine rep_slice (k := 1) (by omega) (by simp [u64s]; omega) hl (fun x hx => by rw [hone x hx]; rfl) (fun j x hx => ?_) (fun j x hx => ?_)
      · rw [flat_one hone] at hx
        simp only [u64s, List.getElem?_map, Option.map_eq_some_iff] at hx
        obtain ⟨_, _, rfl⟩ := hx
        rfl
      · rw [flat_one hone] at hx
        simp only [u64s, List.getElem?_map, Option.map_eq_some_iff] at hx
        obtain ⟨_, ⟨s, hs, rfl⟩, rfl⟩ := hx
        have hj : j < len := by have := (List.getElem?_eq_some_iff.1 hs).1; simp at this; omega
        rw [List.getElem?_take_of_lt hj] at hs
        refine ⟨_, hcell j (by omega), ?_⟩
        rw [List.getD_eq_getElem?_getD, hs]
        have := (hz s (List.mem_of_getElem? hs)).1
        rw [Int.toNat_of_nonneg this]
        exact .int _ _
    · intro n hn
      obtain ⟨z, hz1, rfl⟩ := List.mem_map.1 hn
      have := hz z (List.mem_of_mem_take hz1)
      omega

/-- One row: three cells. -/
theorem rep_row {t te tu : TypeId} {fs : Array Field} {f0 f1 f2 : Field} {fuel : Nat} {cs : List Value} {x : DataW H × List MemPlace} (ht : P.underlying t = some (.struct fs)) (hf0 : fs[0]? = some f0) (hf1 : fs[1]? = some f1) (hf2 : fs[2]? = some f2)
    (o0 : f0.offset = 0) (o1 : f1.offset = 1) (o2 : f2.offset = 2) (c0 : P.cellsOf f0.type = 1) (c1 : P.cellsOf f1.type = 1) (c2 : P.cellsOf f2.type = 1) (ct : P.cellsOf t = 3)
    (u0 : P.underlying f0.type = some .string) (u1 : P.underlying f1.type = some (.slice tu)) (u2 : P.underlying f2.type = some (.slice te)) (v1 : P.underlying tu = some (.int .u64)) (v2 : P.underlying te = some .string) (w1 : P.cellsOf tu = 1) (w2 : P.cellsOf te = 1)
    (h : DataW.trod enc P w base spare held fuel t cs = some x) : ∃ (r : RowD) (a b c : Value), cs = [a, b, c] ∧ RepS (allC w) (.str r.name) a ∧ RepS (allC w) (.sl (u64s r.N)) b ∧ RepS (allC w) (.sl (Ev.strs r.S)) c ∧ ∀ n ∈ r.N, n < 18446744073709551616 := by
  obtain ⟨xs, n, rfl, _, hcl, hxl, hx⟩ := DataW.trod_struct ht h
  rw [ct] at hcl
  match cs, hcl with
  | [a, b, c], _ =>
    have hlt : ∀ {i : Nat} {f : Field}, fs[i]? = some f → i < xs.length := fun hf => by rw [hxl]; exact (Array.getElem?_eq_some_iff.1 hf).1
    have g0 := hx 0 f0 hf0
    have g1 := hx 1 f1 hf1
    have g2 := hx 2 f2 hf2
    rw [List.getElem?_eq_getElem (hlt hf0), o0, c0] at g0
    rw [List.getElem?_eq_getElem (hlt hf1), o1, c1] at g1
    rw [List.getElem?_eq_getElem (hlt hf2), o2, c2] at g2
    simp only [List.drop_zero, List.drop_succ_cons, List.take_succ_cons, List.take_zero] at g0 g1 g2
    obtain ⟨s, e0, _, _⟩ := DataW.trod_string u0 g0
    obtain ⟨b', N, e1, r1, k1⟩ := rep_ints u1 v1 w1 g1
    obtain ⟨c', S, e2, r2⟩ := rep_strs u2 v2 w2 g2
    simp only [List.cons.injEq, and_true] at e0 e1 e2
    subst e0; subst e1; subst e2
    refine ⟨⟨s.data.toList, N, S⟩, _, _, _, rfl, ?_, r1, r2, k1⟩
    have e : (⟨s.data.toList.toArray⟩ : ByteArray) = s := by simp
    exact e ▸ RepS.str s.data.toList

end

theorem row_cells (r : RowD) : r.sv.cells = [.str r.name, .sl (u64s r.N), .sl (Ev.strs r.S)] := rfl

theorem flat_rows_get : ∀ (l : List RowD) (j : Nat) (x : SV), (flat (rowsSV l))[j]? = some x → ∃ r, l[j / 3]? = some r ∧ (r.sv.cells)[j % 3]? = some x
  | [], j, x, h => by simp [rowsSV, flat] at h
  | r :: l, j, x, h => by
    have e : flat (rowsSV (r :: l)) = r.sv.cells ++ flat (rowsSV l) := rfl
    rw [e] at h
    by_cases hj : j < 3
    · rw [List.getElem?_append_left (by rw [row_cells]; simpa using hj)] at h
      refine ⟨r, ?_, ?_⟩
      · rw [Nat.div_eq_of_lt hj]; rfl
      · rw [Nat.mod_eq_of_lt hj]; exact h
    · rw [List.getElem?_append_right (by rw [row_cells]; simp; omega)] at h
      have e3 : r.sv.cells.length = 3 := rfl
      rw [e3] at h
      obtain ⟨q, h1, h2⟩ := flat_rows_get l (j - 3) x h
      refine ⟨q, ?_, ?_⟩
      · rw [show j / 3 = (j - 3) / 3 + 1 by omega]; exact h1
      · rw [show j % 3 = (j - 3) % 3 by omega]; exact h2

/-- Rows, out of rows that can be read one by one. -/
theorem rep_rows {w : World} {a : Addr} {len cap : Nat} {base : Nat} (hcap : len ≤ cap)
    (h : ∀ i, i < len → ∃ (r : RowD) (u v z : Value), w.cells? base (a.add (i * 3)) 3 = some [u, v, z] ∧ RepS (allC w) (.str r.name) u ∧ RepS (allC w) (.sl (u64s r.N)) v ∧ RepS (allC w) (.sl (Ev.strs r.S)) z ∧ ∀ n ∈ r.N, n < 18446744073709551616) :
    ∃ l : List RowD, l.length = len ∧ RepS (allC w) (.sl (rowsSV l)) (.slice (some a) len cap) ∧ ∀ r ∈ l, ∀ n ∈ r.N, n < 18446744073709551616 := by
  classical
  let f : Nat → RowD := fun i => if hi : i < len then Classical.choose (h i hi) else ⟨[], [], []⟩
  have hf : ∀ i (hi : i < len), ∃ (u v z : Value), w.cells? base (a.add (i * 3)) 3 = some [u, v, z] ∧ RepS (allC w) (.str (f i).name) u ∧ RepS (allC w) (.sl (u64s (f i).N)) v ∧ RepS (allC w) (.sl (Ev.strs (f i).S)) z ∧ ∀ n ∈ (f i).N, n < 18446744073709551616 := by
    intro i hi
    have := Classical.choose_spec (h i hi)
    simp only [f, dif_pos hi]
    exact this
  refine ⟨(List.range len).map f, by simp, ?_, ?_⟩
  · refine rep_slice (k := 3) (by omega) (by simp [rowsSV]) hcap (fun x hx => ?_) (fun j x hx => ?_) (fun j x hx => ?_)
    · simp only [rowsSV, List.mem_map] at hx
      obtain ⟨r, _, rfl⟩ := hx
      rfl
    · obtain ⟨r, _, h2⟩ := flat_rows_get _ j x hx
      rw [row_cells] at h2
      have : x ∈ [SV.str r.name, .sl (u64s r.N), .sl (Ev.strs r.S)] := List.mem_of_getElem? h2
      simp only [List.mem_cons, List.not_mem_nil, or_false] at this
      rcases this with rfl | rfl | rfl <;> rfl
    · obtain ⟨r, h1, h2⟩ := flat_rows_get _ j x hx
      rw [List.getElem?_map, Option.map_eq_some_iff] at h1
      obtain ⟨i, hi, rfl⟩ := h1
      have hil : j / 3 < len := by have := (List.getElem?_eq_some_iff.1 hi).1; simpa using this
      have hij : i = j / 3 := by rw [List.getElem?_range hil] at hi; exact (Option.some.inj hi).symm
      subst hij
      obtain ⟨u, v, z, k1, k2, k3, k4, _⟩ := hf (j / 3) hil
      obtain ⟨_, _, k5⟩ := World.cells?_some k1
      have k6 := k5 (j % 3) (by omega)
      have ha : (a.add (j / 3 * 3)).add (j % 3) = a.add j := by
        unfold Addr.add
        by_cases q1 : j / 3 * 3 = 0
        · by_cases q2 : j % 3 = 0
          · have : j = 0 := by omega
            subst this; rfl
          · have : j % 3 = j := by omega
            rw [if_pos q1, this]
        · have q3 : j ≠ 0 := by omega
          by_cases q2 : j % 3 = 0
          · have : j / 3 * 3 = j := by omega
            rw [if_pos q2, this]
          · rw [if_neg q1, if_neg q2, if_neg q3]
            simp only [Addr.mk.injEq, true_and, and_true]
            omega
      rw [ha] at k6
      rw [row_cells] at h2
      have hm : j % 3 < 3 := Nat.mod_lt _ (by omega)
      generalize j % 3 = m at k6 h2 hm
      match m, hm with
      | 0, _ => simp at h2 k6; subst h2; exact ⟨u, k6, k2⟩
      | 1, _ => simp at h2 k6; subst h2; exact ⟨v, k6, k3⟩
      | 2, _ => simp at h2 k6; subst h2; exact ⟨z, k6, k4⟩
  · intro r hr
    obtain ⟨i, hi, rfl⟩ := List.mem_map.1 hr
    obtain ⟨_, _, _, _, _, _, _, k⟩ := hf i (by simpa using hi)
    exact k

end Go.Ev
