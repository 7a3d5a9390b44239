/- Limits: the door (lines printed by a program of this work). -/
/- meant, of any form. -/
/- Softirqs: the program's tree. -/
/- Softirqs: what is written of rows. -/
/- Softirqs: what is written of rows, whole. -/
/- Softirqs: the reference's printing, whole. -/
/- Softirqs: the reference's tree. -/
/- Limits: the reference (lines printed by a program of this work). -/
/- Limits: the reference's tree and reading; the laws (lines printed by a program of this work). -/
/- Entries of the limits. -/
import Derived.Test.YtkpjijiiegdcaaaGreatDoorHat
import Derived.Test.YtkpjijiiegdcaaaGreatDoorHaq
import Derived.Test.YtkpjijiiegdcaaaGreatDoorHar
import Derived.Test.YtkpjijiiegdcaaaGreatDoorHau
import Derived.Test.YtkpjijiiegdcaaaGreatDoorHah
import Derived.Test.YtkpjijiiegdcaaaGreatDoorHbb
set_option linter.unusedSimpArgs false
set_option linter.unusedVariables false
namespace Go.Ev
open Go.Proofs

structure LmH (E : Env) : Prop where
  h183 : Has E 183 S4183
  h93 : Has E 185 S3193g
  h86 : Has E 186 S4186
  h88 : E.code 182 = some c88
  h90 : E.code 184 = some c90
  hp88 : E.pure 182 = none
  hp90 : E.pure 184 = none

theorem limTab_chars : ∀ f ∈ limTab, (∀ c ∈ f.label, c.toNat ≠ 10 ∧ c.toNat ≠ 13) ∧ ∀ c ∈ f.unit, c.toNat ≠ 10 ∧ c.toNat ≠ 13 := by decide
theorem limTab_ends : ∀ f ∈ limTab, (match f.label.head? with | some c => !spC c && decide (c.toNat < 128) | none => false) = true ∧ (match f.label.getLast? with | some c => !spC c && decide (c.toNat < 128) | none => false) = true := by decide

theorem leftS_chars {s : List UInt8} {n : Nat} (h : ∀ c ∈ s, c.toNat ≠ 10 ∧ c.toNat ≠ 13) : ∀ c ∈ leftS s n, c.toNat ≠ 10 ∧ c.toNat ≠ 13 := by
  intro c hc
  unfold leftS at hc
  rcases List.mem_append.1 hc with hc | hc
  · exact h c hc
  · rw [List.eq_of_mem_replicate hc]; decide

theorem limVal_chars (n : Nat) : ∀ c ∈ limVal n, c.toNat ≠ 10 ∧ c.toNat ≠ 13 := by
  intro c hc
  rcases (limVal_word n).2 c hc with h | h <;> omega

theorem limBody_chars {f : LimF} (hf : f ∈ limTab) (a b : Nat) : ∀ c ∈ limBody f a b, c.toNat ≠ 10 ∧ c.toNat ≠ 13 := by
  obtain ⟨h1, h2⟩ := limTab_chars f hf
  have h32 : (32 : UInt8).toNat ≠ 10 ∧ (32 : UInt8).toNat ≠ 13 := by decide
  intro c hc
  unfold limBody at hc
  rcases List.mem_append.1 hc with hc | hc
  · exact leftS_chars h1 c hc
  rcases List.mem_cons.1 hc with rfl | hc
  · exact h32
  rcases List.mem_append.1 hc with hc | hc
  · exact leftS_chars (limVal_chars a) c hc
  rcases List.mem_cons.1 hc with rfl | hc
  · exact h32
  rcases List.mem_append.1 hc with hc | hc
  · exact leftS_chars (limVal_chars b) c hc
  rcases List.mem_cons.1 hc with rfl | hc
  · exact h32
  · exact leftS_chars h2 c hc

theorem trim_label {F : List SV → Option AV} (hF : S3193g F) {f : LimF} (hf : f ∈ limTab) {l : List UInt8} (hl : trimOf l f.label) : F [.str l] = some (.sv (.str f.label)) := by
  obtain ⟨T, rfl, ht, hT⟩ := hl
  obtain ⟨e1, e2⟩ := limTab_ends f hf
  obtain ⟨e3, _⟩ := limTab_small f hf
  cases h1 : f.label.head? with
  | none => rw [h1] at e1; cases e1
  | some c =>
    cases h2 : f.label.getLast? with
    | none => rw [h2] at e2; cases e2
    | some d =>
      rw [h1] at e1
      rw [h2] at e2
      simp only [Bool.and_eq_true, Bool.not_eq_true', decide_eq_true_eq] at e1 e2
      exact hF [] f.label T c d (by simp only [List.nil_append, List.length_append]; omega) (by simp) (fun x hx => by rw [hT x hx]; decide) h1 e1.1 e1.2 h2 e2.1 e2.2

theorem line4051 (E : Env) (cf : CallF) (m : Nat) (H : LmH E) (z0 z1 : Box) (C : List Cell) (hC : C.length = 16) (s t line rest : List UInt8) (i : Nat) (f : LimF) (hf : limTab[i]? = some f)
    (hsc : cf 182 [.ptr 3 0] [z0, z1, .live C, scanBox s t] = some (.sv (.bool true), [z0, z1, .live C, scanBox rest line])) (htx : cf 184 [.ptr 3 0] [z0, z1, .live C, scanBox rest line] = some (.sv (.str line), [z0, z1, .live C, scanBox rest line]))
    (a b : Nat) (ha : a < 18446744073709551616) (hb : b < 18446744073709551616) (hline : line = limBody f a b) :
    evCA E cf m b4051_0 (st4051 z0 z1 C s t) = some (.normal, st4051 z0 z1 (C.set i (.sv (.int .u64 (a : Int)))) rest line) := by
  obtain ⟨⟨FZ, pz, hZ⟩, ⟨FT, pt, hT⟩, ⟨FU, pu, hU⟩, _, _, hp88, hp90⟩ := H
  have hm : f ∈ limTab := List.mem_of_getElem? hf
  obtain ⟨wh, l1, eZ, hl1⟩ := hZ f hm a b ha hb
  rw [← hline] at eZ
  have eT := trim_label hT hm hl1
  have eU := hU a ha
  clear hline hZ hT hU hl1
  have hi : i < 16 := by have := (List.getElem?_eq_some_iff.1 hf).1; exact this
  have hcs : i = 0 ∨ i = 1 ∨ i = 2 ∨ i = 3 ∨ i = 4 ∨ i = 5 ∨ i = 6 ∨ i = 7 ∨ i = 8 ∨ i = 9 ∨ i = 10 ∨ i = 11 ∨ i = 12 ∨ i = 13 ∨ i = 14 ∨ i = 15 := by omega
  rcases hcs with rfl | rfl | rfl | rfl | rfl | rfl | rfl | rfl | rfl | rfl | rfl | rfl | rfl | rfl | rfl | rfl
  · have e : f = ln0 := (Option.some.inj hf).symm
    subst e
    exact line4051_0 E cf m hp88 hp90 FZ FT FU pz pt pu z0 z1 C hC s t line rest hsc htx wh l1 (limVal a) (limVal b) a eZ eT eU
  · have e : f = ln1 := (Option.some.inj hf).symm
    subst e
    exact line4051_1 E cf m hp88 hp90 FZ FT FU pz pt pu z0 z1 C hC s t line rest hsc htx wh l1 (limVal a) (limVal b) a eZ eT eU
  · have e : f = ln2 := (Option.some.inj hf).symm
    subst e
    exact line4051_2 E cf m hp88 hp90 FZ FT FU pz pt pu z0 z1 C hC s t line rest hsc htx wh l1 (limVal a) (limVal b) a eZ eT eU
  · have e : f = ln3 := (Option.some.inj hf).symm
    subst e
    exact line4051_3 E cf m hp88 hp90 FZ FT FU pz pt pu z0 z1 C hC s t line rest hsc htx wh l1 (limVal a) (limVal b) a eZ eT eU
  · have e : f = ln4 := (Option.some.inj hf).symm
    subst e
    exact line4051_4 E cf m hp88 hp90 FZ FT FU pz pt pu z0 z1 C hC s t line rest hsc htx wh l1 (limVal a) (limVal b) a eZ eT eU
  · have e : f = ln5 := (Option.some.inj hf).symm
    subst e
    exact line4051_5 E cf m hp88 hp90 FZ FT FU pz pt pu z0 z1 C hC s t line rest hsc htx wh l1 (limVal a) (limVal b) a eZ eT eU
  · have e : f = ln6 := (Option.some.inj hf).symm
    subst e
    exact line4051_6 E cf m hp88 hp90 FZ FT FU pz pt pu z0 z1 C hC s t line rest hsc htx wh l1 (limVal a) (limVal b) a eZ eT eU
  · have e : f = ln7 := (Option.some.inj hf).symm
    subst e
    exact line4051_7 E cf m hp88 hp90 FZ FT FU pz pt pu z0 z1 C hC s t line rest hsc htx wh l1 (limVal a) (limVal b) a eZ eT eU
  · have e : f = ln8 := (Option.some.inj hf).symm
    subst e
    exact line4051_8 E cf m hp88 hp90 FZ FT FU pz pt pu z0 z1 C hC s t line rest hsc htx wh l1 (limVal a) (limVal b) a eZ eT eU
  · have e : f = ln9 := (Option.some.inj hf).symm
    subst e
    exact line4051_9 E cf m hp88 hp90 FZ FT FU pz pt pu z0 z1 C hC s t line rest hsc htx wh l1 (limVal a) (limVal b) a eZ eT eU
  · have e : f = ln10 := (Option.some.inj hf).symm
    subst e
    exact line4051_10 E cf m hp88 hp90 FZ FT FU pz pt pu z0 z1 C hC s t line rest hsc htx wh l1 (limVal a) (limVal b) a eZ eT eU
  · have e : f = ln11 := (Option.some.inj hf).symm
    subst e
    exact line4051_11 E cf m hp88 hp90 FZ FT FU pz pt pu z0 z1 C hC s t line rest hsc htx wh l1 (limVal a) (limVal b) a eZ eT eU
  · have e : f = ln12 := (Option.some.inj hf).symm
    subst e
    exact line4051_12 E cf m hp88 hp90 FZ FT FU pz pt pu z0 z1 C hC s t line rest hsc htx wh l1 (limVal a) (limVal b) a eZ eT eU
  · have e : f = ln13 := (Option.some.inj hf).symm
    subst e
    exact line4051_13 E cf m hp88 hp90 FZ FT FU pz pt pu z0 z1 C hC s t line rest hsc htx wh l1 (limVal a) (limVal b) a eZ eT eU
  · have e : f = ln14 := (Option.some.inj hf).symm
    subst e
    exact line4051_14 E cf m hp88 hp90 FZ FT FU pz pt pu z0 z1 C hC s t line rest hsc htx wh l1 (limVal a) (limVal b) a eZ eT eU
  · have e : f = ln15 := (Option.some.inj hf).symm
    subst e
    exact line4051_15 E cf m hp88 hp90 FZ FT FU pz pt pu z0 z1 C hC s t line rest hsc htx wh l1 (limVal a) (limVal b) a eZ eT eU

def setFrom (N : List Nat) : List Cell → Nat → List LimF → List Cell
  | C, _, [] => C
  | C, i, _ :: l => setFrom N (C.set i (.sv (.int .u64 ((N.getD i 0 : Nat) : Int)))) (i + 1) l

def end4051 (z0 z1 : Box) (C : List Cell) : SA := { nt := 207, tm := [(7, .ptr 3 0), (6, .ptr 2 0), (2, .ptr 1 0)], lz := none, bx := [z0, z1, .live C, scanBox [] []], df := [180] }

theorem loop4051 (E : Env) (H : LmH E) (M m : Nat) (z0 z1 : Box) (N : List Nat) (hN : ∀ i, N.getD i 0 < 18446744073709551616) (hM : 100 < M) :
    ∀ (l pre : List LimF) (i k : Nat) (C : List Cell) (t : List UInt8), limTab = pre ++ l → i = pre.length → C.length = 16 → l.length < k →
      roundsA (evCA E (evF E (M + 1)) m b4051_0) k (st4051 z0 z1 C (limLines N i l) t) = some (.exit 0, end4051 z0 z1 (setFrom N C i l)) := by
  have H' := H
  obtain ⟨_, _, _, h88, h90, hp88, hp90⟩ := H'
  intro l
  induction l with
  | nil =>
    intro pre i k C t hsp hi hC hk
    obtain ⟨k, rfl⟩ : ∃ k', k = k' + 1 := ⟨k - 1, by omega⟩
    have hs := scan88e E h88 3 [z0, z1, .live C, scanBox [] t] t rfl M
    simp only [List.set_cons_succ, List.set_cons_zero] at hs
    refine roundsA_out ?_ (by simp)
    simp only [limLines, setFrom, end4051]
    simp only [scanBox] at *
    simp [b4051_0, st4051, scanBox, hp88, hs]
  | cons f l ih =>
    intro pre i k C t hsp hi hC hk
    obtain ⟨k, rfl⟩ : ∃ k', k = k' + 1 := ⟨k - 1, by omega⟩
    have hf : limTab[i]? = some f := by rw [hsp, hi]; simp
    have hm : f ∈ limTab := List.mem_of_getElem? hf
    have hbl := limBody_len hm (hN i) (hN (16 + i))
    have hlt : l.length ≤ 16 := by have := congrArg List.length hsp; simp [limTab] at this; omega
    have hrl : ∀ (l : List LimF) (i : Nat), (∀ g ∈ l, g ∈ limTab) → (limLines N i l).length ≤ l.length * 79 := by
      intro l
      induction l with
      | nil => intro i _; simp [limLines]
      | cons g l ih2 =>
        intro i hg
        have h1 := ih2 (i + 1) (fun x hx => hg x (by simp [hx]))
        have h2 := limBody_len (hg g (by simp)) (hN i) (hN (16 + i))
        simp only [limLines, limLine, List.length_append, List.length_cons, List.length_nil]
        omega
    have hr := hrl l (i + 1) (fun g hg => by rw [hsp]; simp [hg])
    have hsc := scan88 E h88 3 [z0, z1, .live C, scanBox (limBody f (N.getD i 0) (N.getD (16 + i) 0) ++ 10 :: limLines N (i + 1) l) t] (limBody f (N.getD i 0) (N.getD (16 + i) 0)) (limLines N (i + 1) l) t rfl (by omega) (by omega) (limBody_chars hm _ _) M (by omega)
    simp only [List.set_cons_succ, List.set_cons_zero] at hsc
    have htx := evF90 E h90 M 3 [z0, z1, .live C, scanBox (limLines N (i + 1) l) (limBody f (N.getD i 0) (N.getD (16 + i) 0))] (limLines N (i + 1) l) (limBody f (N.getD i 0) (N.getD (16 + i) 0)) rfl
    have hst := line4051 E (evF E (M + 1)) m H z0 z1 C hC (limBody f (N.getD i 0) (N.getD (16 + i) 0) ++ 10 :: limLines N (i + 1) l) t _ _ i f hf hsc htx (N.getD i 0) (N.getD (16 + i) 0) (hN i) (hN (16 + i)) rfl
    have e : limLines N i (f :: l) = limBody f (N.getD i 0) (N.getD (16 + i) 0) ++ 10 :: limLines N (i + 1) l := by simp [limLines, limLine]
    rw [e, roundsA_step hst]
    simp only [setFrom]
    exact ih (pre ++ [f]) (i + 1) k _ _ (by rw [hsp]; simp) (by simp [hi]) (by simpa using hC) (by simp at hk; omega)

def limVals (N : List Nat) : List SV := (List.range 16).map fun i => .int .u64 ((N.getD i 0 : Nat) : Int)

def S4051 (F : List SV → Option AV) : Prop := ∀ N : List Nat, (∀ i, N.getD i 0 < 18446744073709551616) → F [.agg [.int .i64 0, .str (limText1 N)]] = some (.sv (.tup [.agg (limVals N), .nilI]))

theorem ev4051 (E : Env) (h : E.code 51 = some c4051) (H : LmH E) (hlk : E.look 187 = some 3) (hq : E.quiet 180 = true) (h84 : E.pure 178 = some F84) (h93 : Has E 179 S2193t) (h87 : E.code 181 = some c87) (hp87 : E.pure 181 = none) (hp128 : E.pure 187 = none) : S4051 (autoF E 51) := by
  obtain ⟨G, hg, hG⟩ := h93
  intro N hN
  have H' := H
  obtain ⟨_, _, _, h88, h90, hp88, hp90⟩ := H'
  obtain ⟨M, hM⟩ : ∃ M, M = 200 := ⟨_, rfl⟩
  have hG1 := hG (limText1 N) (strs [[108, 105, 109, 105, 116, 115]])
  simp only [strs, List.map_cons, List.map_nil] at hG1
  obtain ⟨z0, hz0⟩ : ∃ z : Box, z = .live [.sv (.int .i64 0), .sv (.str (limText1 N))] := ⟨_, rfl⟩
  obtain ⟨z1, hz1⟩ : ∃ z : Box, z = .live [.sv (.int .u64 0), .sv (.int .u64 0), .sv (.int .u64 0), .sv (.int .u64 0), .sv (.int .u64 0), .sv (.int .u64 0), .sv (.int .u64 0), .sv (.int .u64 0), .sv (.int .u64 0), .sv (.int .u64 0), .sv (.int .u64 0), .sv (.int .u64 0), .sv (.int .u64 0), .sv (.int .u64 0), .sv (.int .u64 0), .sv (.int .u64 0)] := ⟨_, rfl⟩
  have e87 := evF87 E h87 M [z0, z1, .live [.sv (.int .u64 0), .sv (.int .u64 0), .sv (.int .u64 0), .sv (.int .u64 0), .sv (.int .u64 0), .sv (.int .u64 0), .sv (.int .u64 0), .sv (.int .u64 0), .sv (.int .u64 0), .sv (.int .u64 0), .sv (.int .u64 0), .sv (.int .u64 0), .sv (.int .u64 0), .sv (.int .u64 0), .sv (.int .u64 0), .sv (.int .u64 0)]] (limText1 N)
  have hl0 := loop4051 E H M (M + 1) z0 z1 N hN (by omega) limTab [] 0 (M + 1) [.sv (.int .u64 0), .sv (.int .u64 0), .sv (.int .u64 0), .sv (.int .u64 0), .sv (.int .u64 0), .sv (.int .u64 0), .sv (.int .u64 0), .sv (.int .u64 0), .sv (.int .u64 0), .sv (.int .u64 0), .sv (.int .u64 0), .sv (.int .u64 0), .sv (.int .u64 0), .sv (.int .u64 0), .sv (.int .u64 0), .sv (.int .u64 0)] limHeadL rfl rfl rfl (by rw [show limTab.length = 16 from rfl]; omega)
  have hrl : (limLines N 0 limTab).length < 1000000000 := by
    have key : ∀ (l : List LimF) (i : Nat), (∀ g ∈ l, g ∈ limTab) → (limLines N i l).length ≤ l.length * 79 := by
      intro l
      induction l with
      | nil => intro i _; simp [limLines]
      | cons g l ih2 =>
        intro i hg
        have h1 := ih2 (i + 1) (fun x hx => hg x (by simp [hx]))
        have h2 := limBody_len (hg g (by simp)) (hN i) (hN (16 + i))
        simp only [limLines, limLine, List.length_append, List.length_cons, List.length_nil]
        omega
    have := key limTab 0 (fun _ h => h)
    rw [show limTab.length = 16 from rfl] at this
    omega
  have hsc := scan88 E h88 3 [z0, z1, .live [.sv (.int .u64 0), .sv (.int .u64 0), .sv (.int .u64 0), .sv (.int .u64 0), .sv (.int .u64 0), .sv (.int .u64 0), .sv (.int .u64 0), .sv (.int .u64 0), .sv (.int .u64 0), .sv (.int .u64 0), .sv (.int .u64 0), .sv (.int .u64 0), .sv (.int .u64 0), .sv (.int .u64 0), .sv (.int .u64 0), .sv (.int .u64 0)], scanBox (limHeadL ++ 10 :: limLines N 0 limTab) []] limHeadL (limLines N 0 limTab) [] rfl (by decide) hrl (by decide) M (by rw [hM]; decide)
  simp only [List.set_cons_succ, List.set_cons_zero] at hsc
  have e : limText1 N = limHeadL ++ 10 :: limLines N 0 limTab := by simp [limText1]
  rw [← e] at hsc
  have hfin : setFrom N [.sv (.int .u64 0), .sv (.int .u64 0), .sv (.int .u64 0), .sv (.int .u64 0), .sv (.int .u64 0), .sv (.int .u64 0), .sv (.int .u64 0), .sv (.int .u64 0), .sv (.int .u64 0), .sv (.int .u64 0), .sv (.int .u64 0), .sv (.int .u64 0), .sv (.int .u64 0), .sv (.int .u64 0), .sv (.int .u64 0), .sv (.int .u64 0)] 0 limTab = (limVals N).map .sv := rfl
  rw [hfin] at hl0
  have hv : limVals N = [.int .u64 ((N.getD 0 0 : Nat) : Int), .int .u64 ((N.getD 1 0 : Nat) : Int), .int .u64 ((N.getD 2 0 : Nat) : Int), .int .u64 ((N.getD 3 0 : Nat) : Int), .int .u64 ((N.getD 4 0 : Nat) : Int), .int .u64 ((N.getD 5 0 : Nat) : Int), .int .u64 ((N.getD 6 0 : Nat) : Int), .int .u64 ((N.getD 7 0 : Nat) : Int), .int .u64 ((N.getD 8 0 : Nat) : Int), .int .u64 ((N.getD 9 0 : Nat) : Int), .int .u64 ((N.getD 10 0 : Nat) : Int), .int .u64 ((N.getD 11 0 : Nat) : Int), .int .u64 ((N.getD 12 0 : Nat) : Int), .int .u64 ((N.getD 13 0 : Nat) : Int), .int .u64 ((N.getD 14 0 : Nat) : Int), .int .u64 ((N.getD 15 0 : Nat) : Int)] := rfl
  rw [hv] at hl0 ⊢
  have hF84 : F84 [.str (limText1 N)] = some (.sv (.tup [.str (limText1 N), .nilI])) := rfl
  generalize limText1 N = s at *
  generalize limLines N 0 limTab = LL at *
  generalize limHeadL = hd at *
  generalize hq0 : N.getD 0 0 = q0 at *
  generalize N.getD 1 0 = q1 at *
  generalize N.getD 2 0 = q2 at *
  generalize N.getD 3 0 = q3 at *
  generalize N.getD 4 0 = q4 at *
  generalize N.getD 5 0 = q5 at *
  generalize N.getD 6 0 = q6 at *
  generalize N.getD 7 0 = q7 at *
  generalize N.getD 8 0 = q8 at *
  generalize N.getD 9 0 = q9 at *
  generalize N.getD 10 0 = q10 at *
  generalize N.getD 11 0 = q11 at *
  generalize N.getD 12 0 = q12 at *
  generalize N.getD 13 0 = q13 at *
  generalize N.getD 14 0 = q14 at *
  generalize N.getD 15 0 = q15 at *
  clear hN hfin hv e hrl hq0
  refine autoA_sv (n := M + 1) ?_ rfl
  unfold evPA
  simp only [h]
  simp only [List.map_cons, List.map_nil, List.length_cons, List.length_nil, List.cons_append, List.nil_append] at e87 hl0
  simp only [st4051, end4051] at hl0
  simp only [scanBox] at *
  subst hz0
  subst hz1
  simp (maxSteps := 5000000) [c4051, hg, hG1, h84, hF84, hp87, e87, hp88, hsc, hl0, hp128, hlk, hq]

def S4053 (F : List SV → Option AV) : Prop := ∀ N : List Nat, F [.str [], .agg (limVals N)] = some (.sv (limTree1 N))

theorem core4053 (E : Env) (h : E.code 53 = some c4053) (q0 q1 q2 q3 q4 q5 q6 q7 q8 q9 q10 q11 q12 q13 q14 q15 : Int) : evP E 1 53 [.str [], .agg [.int .u64 q0, .int .u64 q1, .int .u64 q2, .int .u64 q3, .int .u64 q4, .int .u64 q5, .int .u64 q6, .int .u64 q7, .int .u64 q8, .int .u64 q9, .int .u64 q10, .int .u64 q11, .int .u64 q12, .int .u64 q13, .int .u64 q14, .int .u64 q15]] = some (.sv (nodeV [] 8 false 0 0 0 [] [nodeV [67, 80, 85, 84, 105, 109, 101] 3 false 0 q0 0 [] [], nodeV [70, 105, 108, 101, 83, 105, 122, 101] 3 false 0 q1 0 [] [], nodeV [68, 97, 116, 97, 83, 105, 122, 101] 3 false 0 q2 0 [] [], nodeV [83, 116, 97, 99, 107, 83, 105, 122, 101] 3 false 0 q3 0 [] [], nodeV [67, 111, 114, 101, 70, 105, 108, 101, 83, 105, 122, 101] 3 false 0 q4 0 [] [], nodeV [82, 101, 115, 105, 100, 101, 110, 116, 83, 101, 116] 3 false 0 q5 0 [] [], nodeV [80, 114, 111, 99, 101, 115, 115, 101, 115] 3 false 0 q6 0 [] [], nodeV [79, 112, 101, 110, 70, 105, 108, 101, 115] 3 false 0 q7 0 [] [], nodeV [76, 111, 99, 107, 101, 100, 77, 101, 109, 111, 114, 121] 3 false 0 q8 0 [] [], nodeV [65, 100, 100, 114, 101, 115, 115, 83, 112, 97, 99, 101] 3 false 0 q9 0 [] [], nodeV [70, 105, 108, 101, 76, 111, 99, 107, 115] 3 false 0 q10 0 [] [], nodeV [80, 101, 110, 100, 105, 110, 103, 83, 105, 103, 110, 97, 108, 115] 3 false 0 q11 0 [] [], nodeV [77, 115, 113, 113, 117, 101, 117, 101, 83, 105, 122, 101] 3 false 0 q12 0 [] [], nodeV [78, 105, 99, 101, 80, 114, 105, 111, 114, 105, 116, 121] 3 false 0 q13 0 [] [], nodeV [82, 101, 97, 108, 116, 105, 109, 101, 80, 114, 105, 111, 114, 105, 116, 121] 3 false 0 q14 0 [] [], nodeV [82, 101, 97, 108, 116, 105, 109, 101, 84, 105, 109, 101, 111, 117, 116] 3 false 0 q15 0 [] []])) := by
  unfold evP
  simp only [h]
  kernel_rfl

theorem ev4053 (E : Env) (h : E.code 53 = some c4053) : S4053 (autoF E 53) := fun N => autoF_sv (core4053 E h ((N.getD 0 0 : Nat) : Int) ((N.getD 1 0 : Nat) : Int) ((N.getD 2 0 : Nat) : Int) ((N.getD 3 0 : Nat) : Int) ((N.getD 4 0 : Nat) : Int) ((N.getD 5 0 : Nat) : Int) ((N.getD 6 0 : Nat) : Int) ((N.getD 7 0 : Nat) : Int) ((N.getD 8 0 : Nat) : Int) ((N.getD 9 0 : Nat) : Int) ((N.getD 10 0 : Nat) : Int) ((N.getD 11 0 : Nat) : Int) ((N.getD 12 0 : Nat) : Int) ((N.getD 13 0 : Nat) : Int) ((N.getD 14 0 : Nat) : Int) ((N.getD 15 0 : Nat) : Int)) rfl

def S4052 (F : List SV → Option AV) : Prop := ∀ N : List Nat, F [.agg (limVals N)] = some (.sv (limTree1 N))

theorem ev4052 (E : Env) (h : E.code 52 = some c4052) (h53 : Has E 53 S4053) : S4052 (autoF E 52) := by
  obtain ⟨G, hg, hG⟩ := h53
  intro N
  have hF := hG N
  refine autoA_sv (n := 1) ?_ rfl
  unfold evPA
  simp only [h]
  have hv : limVals N = [.int .u64 ((N.getD 0 0 : Nat) : Int), .int .u64 ((N.getD 1 0 : Nat) : Int), .int .u64 ((N.getD 2 0 : Nat) : Int), .int .u64 ((N.getD 3 0 : Nat) : Int), .int .u64 ((N.getD 4 0 : Nat) : Int), .int .u64 ((N.getD 5 0 : Nat) : Int), .int .u64 ((N.getD 6 0 : Nat) : Int), .int .u64 ((N.getD 7 0 : Nat) : Int), .int .u64 ((N.getD 8 0 : Nat) : Int), .int .u64 ((N.getD 9 0 : Nat) : Int), .int .u64 ((N.getD 10 0 : Nat) : Int), .int .u64 ((N.getD 11 0 : Nat) : Int), .int .u64 ((N.getD 12 0 : Nat) : Int), .int .u64 ((N.getD 13 0 : Nat) : Int), .int .u64 ((N.getD 14 0 : Nat) : Int), .int .u64 ((N.getD 15 0 : Nat) : Int)] := rfl
  unfold limTree1 nodeV at *
  rw [hv] at hF ⊢
  generalize [limKid N 0 ln0, limKid N 1 ln1, limKid N 2 ln2, limKid N 3 ln3, limKid N 4 ln4, limKid N 5 ln5, limKid N 6 ln6, limKid N 7 ln7, limKid N 8 ln8, limKid N 9 ln9, limKid N 10 ln10, limKid N 11 ln11, limKid N 12 ln12, limKid N 13 ln13, limKid N 14 ln14, limKid N 15 ln15] = K at *
  generalize hq0 : N.getD 0 0 = q0 at *
  generalize N.getD 1 0 = q1 at *
  generalize N.getD 2 0 = q2 at *
  generalize N.getD 3 0 = q3 at *
  generalize N.getD 4 0 = q4 at *
  generalize N.getD 5 0 = q5 at *
  generalize N.getD 6 0 = q6 at *
  generalize N.getD 7 0 = q7 at *
  generalize N.getD 8 0 = q8 at *
  generalize N.getD 9 0 = q9 at *
  generalize N.getD 10 0 = q10 at *
  generalize N.getD 11 0 = q11 at *
  generalize N.getD 12 0 = q12 at *
  generalize N.getD 13 0 = q13 at *
  generalize N.getD 14 0 = q14 at *
  generalize N.getD 15 0 = q15 at *
  simp [c4052, hg, hF]

def S4049 (F : List SV → Option AV) : Prop := ∀ N : List Nat, (∀ i, N.getD i 0 < 18446744073709551616) → F [.fn 51 [.agg [.int .i64 0, .str (limText1 N)]] [], .fn 52 [] []] = some (.sv (.tup [limTree1 N, .int .i64 0]))

theorem ev4049 (E : Env) (h : E.code 49 = some c4049) (hq : E.quiet 177 = true) (h51 : Has E 51 S4051) (h52 : Has E 52 S4052) : S4049 (autoF E 49) := by
  obtain ⟨G, hg, hG⟩ := h51
  obtain ⟨K, hk, hK⟩ := h52
  intro N hN
  have hF := hG N hN
  have hF2 := hK N
  refine autoA_sv (n := 1) ?_ rfl
  unfold evPA
  simp only [h]
  have hv : limVals N = [.int .u64 ((N.getD 0 0 : Nat) : Int), .int .u64 ((N.getD 1 0 : Nat) : Int), .int .u64 ((N.getD 2 0 : Nat) : Int), .int .u64 ((N.getD 3 0 : Nat) : Int), .int .u64 ((N.getD 4 0 : Nat) : Int), .int .u64 ((N.getD 5 0 : Nat) : Int), .int .u64 ((N.getD 6 0 : Nat) : Int), .int .u64 ((N.getD 7 0 : Nat) : Int), .int .u64 ((N.getD 8 0 : Nat) : Int), .int .u64 ((N.getD 9 0 : Nat) : Int), .int .u64 ((N.getD 10 0 : Nat) : Int), .int .u64 ((N.getD 11 0 : Nat) : Int), .int .u64 ((N.getD 12 0 : Nat) : Int), .int .u64 ((N.getD 13 0 : Nat) : Int), .int .u64 ((N.getD 14 0 : Nat) : Int), .int .u64 ((N.getD 15 0 : Nat) : Int)] := rfl
  unfold limTree1 nodeV at *
  rw [hv] at hF hF2
  generalize [limKid N 0 ln0, limKid N 1 ln1, limKid N 2 ln2, limKid N 3 ln3, limKid N 4 ln4, limKid N 5 ln5, limKid N 6 ln6, limKid N 7 ln7, limKid N 8 ln8, limKid N 9 ln9, limKid N 10 ln10, limKid N 11 ln11, limKid N 12 ln12, limKid N 13 ln13, limKid N 14 ln14, limKid N 15 ln15] = KK at *
  generalize limText1 N = s at *
  generalize hq0 : N.getD 0 0 = q0 at *
  generalize N.getD 1 0 = q1 at *
  generalize N.getD 2 0 = q2 at *
  generalize N.getD 3 0 = q3 at *
  generalize N.getD 4 0 = q4 at *
  generalize N.getD 5 0 = q5 at *
  generalize N.getD 6 0 = q6 at *
  generalize N.getD 7 0 = q7 at *
  generalize N.getD 8 0 = q8 at *
  generalize N.getD 9 0 = q9 at *
  generalize N.getD 10 0 = q10 at *
  generalize N.getD 11 0 = q11 at *
  generalize N.getD 12 0 = q12 at *
  generalize N.getD 13 0 = q13 at *
  generalize N.getD 14 0 = q14 at *
  generalize N.getD 15 0 = q15 at *
  simp [c4049, hg, hF, hk, hF2, hq]

def S4019 (F : List SV → Option AV) : Prop := SDoorG limRd limOk limTree F

theorem getD_fit {l : List Nat} (h : ∀ n ∈ l, n < 18446744073709551616) : ∀ i, l.getD i 0 < 18446744073709551616 := by
  intro i
  rw [List.getD_eq_getElem?_getD]
  cases hi : l[i]? with
  | none => decide
  | some n => exact h n (List.mem_of_getElem? hi)

theorem ev4019 (E : Env) (h : E.code 19 = some c4019) (h13 : Has E 50 S2113t) (h49 : Has E 49 S4049) : S4019 (autoF E 19) := by
  obtain ⟨G, hg, hG⟩ := h13
  obtain ⟨K, hk, hK⟩ := h49
  intro s rs hrd hok hf hs
  obtain ⟨N, rfl, hN⟩ := limOk_spec hok
  have hfit := getD_fit (hf.2 _ (List.mem_singleton.2 rfl)).2.2.1
  have hF := hK N hfit
  obtain rfl : limText1 N = s := hrd
  have hG1 := hG (limText1 N)
  refine autoA_sv (n := 1) ?_ rfl
  unfold evPA
  simp only [h]
  simp only [limTree]
  unfold limTree1 nodeV at *
  generalize [limKid N 0 ln0, limKid N 1 ln1, limKid N 2 ln2, limKid N 3 ln3, limKid N 4 ln4, limKid N 5 ln5, limKid N 6 ln6, limKid N 7 ln7, limKid N 8 ln8, limKid N 9 ln9, limKid N 10 ln10, limKid N 11 ln11, limKid N 12 ln12, limKid N 13 ln13, limKid N 14 ln14, limKid N 15 ln15] = KK at *
  generalize limText1 N = s at *
  simp [c4019, hg, hG1, hk, hF]

end Go.Ev

set_option linter.unusedSimpArgs false
set_option linter.unusedVariables false
namespace Go.Ev
open Go.Proofs

theorem ev31P (E : Env) (h : E.code 45 = some c31) (h78 : E.pure 174 = some F78) (P : Nat) (F : List SV → Option AV) (hP : E.pure P = some F) (text : List UInt8) (hs : text.length < 9223372036854775807) (rows : List SV) (ok : Bool) (out : List UInt8) (told : Int)
    (hF : F [.sl rows] = some (.sv (.tup [.str out, .int .i64 told]))) (n : Nat) :
    evP E n 45 [.str text, .sl rows, .bool ok, .fn P [] [], .bool false] = some (.sv (.tup (if ok = true ∧ text.all plainC = true ∧ told = 1 ∧ out = text then [.sl rows, .bool true, .int .i64 1] else [.sl [], .bool false, .int .i64 2]))) := by
  unfold evP
  simp only [h]
  have hF78 := F78_eq text hs
  cases ok with
  | false => simp [c31, List.replicate]
  | true =>
    cases hp : text.all plainC with
    | false => rw [hp] at hF78; simp [c31, List.replicate, h78, hF78]
    | true =>
      rw [hp] at hF78
      by_cases h1 : told = 1
      · subst h1
        by_cases h2 : out = text
        · subst h2
          simp [c31, List.replicate, h78, hF78, hP, hF]
        · have h2b : (out != text) = true := by simpa using h2
          have h2c : (out == text) = false := by simpa using h2
          simp [c31, List.replicate, h78, hF78, hP, hF, h2, h2b, h2c]
      · have h1b : (told != 1) = true := by simpa using h1
        simp [c31, List.replicate, h78, hF78, hP, hF, h1, h1b]

/-- What the reference means by a text, of a form P where blanks count. -/
def SMeanG (P : Nat) (ok : List RowD → Bool) (txt : List RowD → List UInt8) (F : List SV → Option AV) : Prop := ∀ (s : List UInt8) (l : List RowD) (b : Bool), s.length < 1000000000 → rowsFit3 l →
  F [.str s, .sl (rowsSV l), .bool b, .fn P [] [], .bool false] = some (.sv (.tup (if b = true ∧ s.all plainC = true ∧ ok l = true ∧ txt l = s then [.sl (rowsSV l), .bool true, .int .i64 1] else [.sl [], .bool false, .int .i64 2])))

theorem mean31 {ok : List RowD → Bool} {txt : List RowD → List UInt8} (E : Env) (h : E.code 45 = some c31) (h78 : E.pure 174 = some F78) (P : Nat) (hP : Has E P (SPrintG ok txt)) : SMeanG P ok txt (autoF E 45) := by
  obtain ⟨F, hp, hF⟩ := hP
  intro s l b hs hl
  have hFl := hF l hl
  refine autoF_sv (n := 1) ?_ (by split <;> rfl)
  cases hb : ok l with
  | true =>
    rw [if_pos hb] at hFl
    rw [ev31P E h h78 P F hp s (by omega) (rowsSV l) b (txt l) 1 hFl 1]
    simp
  | false =>
    rw [if_neg (by simp [hb])] at hFl
    rw [ev31P E h h78 P F hp s (by omega) (rowsSV l) b [] 2 hFl 1]
    simp

end Go.Ev

set_option linter.unusedSimpArgs false
set_option linter.unusedVariables false
namespace Go.Ev
open Go.Proofs

end Go.Ev

set_option linter.unusedSimpArgs false
set_option linter.unusedVariables false
namespace Go.Ev
open Go.Proofs

end Go.Ev

set_option linter.unusedSimpArgs false
set_option linter.unusedVariables false
namespace Go.Ev
open Go.Proofs

end Go.Ev

set_option linter.unusedSimpArgs false
set_option linter.unusedVariables false
namespace Go.Ev
open Go.Proofs

end Go.Ev

set_option linter.unusedSimpArgs false
set_option linter.unusedVariables false
namespace Go.Ev
open Go.Proofs

def S35o (F : List SV → Option AV) : Prop := ∀ (nm : List UInt8) (u : Int), F [.str nm, .int .u64 u] = some (.sv (nodeV nm 3 false 0 u 0 [] []))

theorem ev35o (E : Env) (h : E.code 34 = some c35) : S35o (autoF E 34) := by
  intro nm u
  refine autoA_sv (n := 1) ?_ rfl
  unfold evPA
  simp only [h]
  simp [c35, nodeV]

end Go.Ev

set_option linter.unusedSimpArgs false
set_option linter.unusedVariables false
namespace Go.Ev
open Go.Proofs

/-! ### What is written -/

def st4017 (r : SV) (acc : List UInt8) (i : Nat) (bx : List Box) : SA := { nt := 78, tm := [(37, .sv (.int .i64 i)), (36, .sv (.int .i64 16)), (35, .sv (.sl (limTab.map limRow))), (4, .sv (.str acc)), (0, .sv (.sl [r]))], lz := none, bx := bx, df := [] }

set_option maxRecDepth 100000 in
set_option maxHeartbeats 4000000 in
theorem core4017 (E : Env) (cf : CallF) (m : Nat) (h44 : E.pure 26 = some F44) (H : List SV → Option AV) (hp : E.pure 48 = some H) (X : List SV) (U S : List SV) (nm : List UInt8) (acc : List UInt8) (i j : Nat) (hX : X.length = 16) (hi : i < 16) (hj : j = 16 + i) (hU : U.length = 32) (n l u : List UInt8) (hc : ∀ h : i < X.length, X[i]'h = .agg [.str n, .str l, .str u]) (a b : Int) (ha : ∀ h : i < U.length, U[i]'h = .int .u64 a) (hb : ∀ h : j < U.length, U[j]'h = .int .u64 b)
    (va vb ll la lb lu s1 s2 s3 s4 s5 s6 s7 s8 : List UInt8) (eva : H [.int .u64 a] = some (.sv (.str va))) (evb : H [.int .u64 b] = some (.sv (.str vb))) (ell : F44 [.str l, .int .i64 25] = some (.sv (.str ll))) (ela : F44 [.str va, .int .i64 20] = some (.sv (.str la))) (elb : F44 [.str vb, .int .i64 20] = some (.sv (.str lb))) (elu : F44 [.str u, .int .i64 10] = some (.sv (.str lu)))
    (p1 : binSV .add (.str ll) (.str [32]) = some (.str s1)) (p2 : binSV .add (.str s1) (.str la) = some (.str s2)) (p3 : binSV .add (.str s2) (.str [32]) = some (.str s3)) (p4 : binSV .add (.str s3) (.str lb) = some (.str s4)) (p5 : binSV .add (.str s4) (.str [32]) = some (.str s5)) (p6 : binSV .add (.str s5) (.str lu) = some (.str s6)) (p7 : binSV .add (.str s6) (.str [10]) = some (.str s7)) (p8 : binSV .add (.str acc) (.str s7) = some (.str s8)) (bx : List Box) :
    evCA E cf m b4017_0 { nt := 78, tm := [(37, .sv (.int .i64 i)), (36, .sv (.int .i64 16)), (35, .sv (.sl X)), (4, .sv (.str acc)), (0, .sv (.sl [.agg [.str nm, .sl U, .sl S]]))], lz := none, bx := bx, df := [] } = some (.normal, { nt := 78, tm := [(37, .sv (.int .i64 ((i + 1 : Nat) : Int))), (36, .sv (.int .i64 16)), (35, .sv (.sl X)), (4, .sv (.str s8)), (0, .sv (.sl [.agg [.str nm, .sl U, .sl S]]))], lz := none, bx := bx ++ [.live [.sv (.str n), .sv (.str l), .sv (.str u)]], df := [] }) := by
  have hw : IntKind.i64.wrap ((i : Int) + 1) = ((i + 1 : Nat) : Int) := by rw [IntKind.wrap_i64]; omega
  have b1 : binSV .lss (.int .i64 (i : Int)) (.int .i64 16) = some (.bool true) := by simp [binSV]; omega
  have b2 : binSV .add (.int .i64 (i : Int)) (.int .i64 1) = some (.int .i64 ((i + 1 : Nat) : Int)) := by simp [binSV, hw]
  have hwj : IntKind.i64.wrap (16 + (i : Int)) = (j : Int) := by rw [IntKind.wrap_i64]; omega
  have b3 : binSV .add (.int .i64 16) (.int .i64 (i : Int)) = some (.int .i64 (j : Int)) := by simp [binSV, hwj]
  have l1 : i < X.length := by omega
  have l2 : i < U.length := by omega
  have l3 : j < U.length := by omega
  clear hw hwj hX hU hj hi
  simp [-binSV, b4017_0, b1, b2, b3, l1, l2, l3, hc, ha, hb, h44, hp, eva, evb, ell, ela, elb, elu, p1, p2, p3, p4, p5, p6, p7, p8]

theorem add_str {a b : List UInt8} (h : a.length + b.length < 4611686018427387904) : binSV .add (.str a) (.str b) = some (.str (a ++ b)) := by simp [binSV, h]

theorem limTab_get {i : Nat} {f : LimF} (h : limTab[i]? = some f) : ∀ h : i < (limTab.map limRow).length, (limTab.map limRow)[i]'h = .agg [.str f.name, .str f.label, .str f.unit] := by
  intro hl
  have : (limTab.map limRow)[i]? = some (limRow f) := by rw [List.getElem?_map, h]; rfl
  rw [List.getElem?_eq_getElem hl] at this
  exact Option.some.inj this

theorem u64s_at {N : List Nat} {i : Nat} : ∀ h : i < (u64s N).length, (u64s N)[i]'h = .int .u64 ((N.getD i 0 : Nat) : Int) := by
  intro h
  have hl : i < N.length := by simpa [u64s] using h
  simp [u64s, hl]

theorem step4017 (E : Env) (cf : CallF) (m : Nat) (h44 : E.pure 26 = some F44) (h48 : Has E 48 S4048) (nm : List UInt8) (N : List Nat) (hN : N.length = 32) (hn : ∀ i, N.getD i 0 < 18446744073709551616) (S : List SV) (acc : List UInt8) (hacc : acc.length < 1000000) (i : Nat) (f : LimF) (hf : limTab[i]? = some f) (bx : List Box) :
    ∃ bx', evCA E cf m b4017_0 (st4017 (.agg [.str nm, .sl (u64s N), .sl S]) acc i bx) = some (.normal, st4017 (.agg [.str nm, .sl (u64s N), .sl S]) (acc ++ limLine f (N.getD i 0) (N.getD (16 + i) 0)) (i + 1) bx') := by
  obtain ⟨H, hp, hH⟩ := h48
  have hi : i < 16 := (List.getElem?_eq_some_iff.1 hf).1
  obtain ⟨t1, t2⟩ := limTab_small f (List.mem_of_getElem? hf)
  have v1 := limVal_len (hn i)
  have v2 := limVal_len (hn (16 + i))
  have k1 := leftS_len f.label 25
  have k2 := leftS_len (limVal (N.getD i 0)) 20
  have k3 := leftS_len (limVal (N.getD (16 + i) 0)) 20
  have k4 := leftS_len f.unit 10
  have e1 := F44_eq f.label 25 (by decide) (by omega)
  have e2 := F44_eq (limVal (N.getD i 0)) 20 (by decide) (by omega)
  have e3 := F44_eq (limVal (N.getD (16 + i) 0)) 20 (by decide) (by omega)
  have e4 := F44_eq f.unit 10 (by decide) (by omega)
  refine ⟨bx ++ [.live [.sv (.str f.name), .sv (.str f.label), .sv (.str f.unit)]], ?_⟩
  have key := core4017 E cf m h44 H hp (limTab.map limRow) (u64s N) S nm acc i (16 + i) rfl hi rfl (by rw [u64s_length, hN]) f.name f.label f.unit (limTab_get hf) _ _ u64s_at u64s_at _ _ _ _ _ _ _ _ _ _ _ _ _ _ (hH _ (hn i)) (hH _ (hn (16 + i))) e1 e2 e3 e4
    (add_str (by simp only [List.length_append, List.length_cons, List.length_nil]; omega)) (add_str (by simp only [List.length_append, List.length_cons, List.length_nil]; omega)) (add_str (by simp only [List.length_append, List.length_cons, List.length_nil]; omega)) (add_str (by simp only [List.length_append, List.length_cons, List.length_nil]; omega)) (add_str (by simp only [List.length_append, List.length_cons, List.length_nil]; omega)) (add_str (by simp only [List.length_append, List.length_cons, List.length_nil]; omega)) (add_str (by simp only [List.length_append, List.length_cons, List.length_nil]; omega)) (add_str (by simp only [List.length_append, List.length_cons, List.length_nil]; omega)) bx
  unfold st4017
  rw [key]
  have : (acc ++ ((((((((leftS f.label 25 ++ [32]) ++ leftS (limVal (N.getD i 0)) 20) ++ [32]) ++ leftS (limVal (N.getD (16 + i) 0)) 20) ++ [32]) ++ leftS f.unit 10)) ++ [10])) = acc ++ limLine f (N.getD i 0) (N.getD (16 + i) 0) := by simp [limLine, limBody]
  rw [this]

theorem loop4017 (E : Env) (cf : CallF) (m : Nat) (h44 : E.pure 26 = some F44) (h48 : Has E 48 S4048) (nm : List UInt8) (N : List Nat) (hN : N.length = 32) (hn : ∀ i, N.getD i 0 < 18446744073709551616) (S : List SV) :
    ∀ (l pre : List LimF) (acc : List UInt8) (i k : Nat) (bx : List Box), limTab = pre ++ l → i = pre.length → acc.length ≤ 100 + 79 * i → l.length < k →
      ∃ bx', roundsA (evCA E cf m b4017_0) k (st4017 (.agg [.str nm, .sl (u64s N), .sl S]) acc i bx) = some (.exit 0, { nt := 78, tm := [(4, .sv (.str (acc ++ limLines N i l)))], lz := none, bx := bx', df := [] }) := by
  intro l
  induction l with
  | nil =>
    intro pre acc i k bx hsp hi ha hk
    obtain ⟨k, rfl⟩ : ∃ k', k = k' + 1 := ⟨k - 1, by omega⟩
    have h16 : i = 16 := by rw [hi]; have := congrArg List.length hsp; simpa [limTab] using this.symm
    refine ⟨bx, roundsA_out ?_ (by simp)⟩
    subst h16
    simp [b4017_0, st4017, limLines]
  | cons f l ih =>
    intro pre acc i k bx hsp hi ha hk
    obtain ⟨k, rfl⟩ : ∃ k', k = k' + 1 := ⟨k - 1, by omega⟩
    have hf : limTab[i]? = some f := by rw [hsp, hi]; simp
    have hi16 : i < 16 := (List.getElem?_eq_some_iff.1 hf).1
    have hbl := limBody_len (List.mem_of_getElem? hf) (hn i) (hn (16 + i))
    obtain ⟨bx1, hst⟩ := step4017 E cf m h44 h48 nm N hN hn S acc (by omega) i f hf bx
    obtain ⟨bx2, he⟩ := ih (pre ++ [f]) (acc ++ limLine f (N.getD i 0) (N.getD (16 + i) 0)) (i + 1) k bx1 (by rw [hsp]; simp) (by simp [hi]) (by simp only [List.length_append, limLine, List.length_cons, List.length_nil]; omega) (by simp at hk; omega)
    refine ⟨bx2, ?_⟩
    rw [roundsA_step hst, he]
    simp [limLines]

def S4017 (F : List SV → Option AV) : Prop := SPrintG limOk limText F

set_option maxRecDepth 100000 in
set_option maxHeartbeats 4000000 in
theorem ev4017 (E : Env) (h : E.code 17 = some c4017) (h44 : E.pure 26 = some F44) (h48 : Has E 48 S4048) (h47 : Has E 47 S4047) (h55 : E.pure 46 = some F55) : S4017 (autoF E 17) := by
  obtain ⟨G, hg, hG⟩ := h47
  unfold S4047 at hG
  intro rs hf
  match rs, hf with
  | [], _ =>
    refine autoA_sv (n := 1) ?_ rfl
    unfold evPA
    simp only [h]
    simp [c4017, rowsSV, limOk]
  | r1 :: r2 :: l, hf =>
    refine autoA_sv (n := 1) ?_ rfl
    unfold evPA
    simp only [h]
    have hl : ((l.length : Int) + 1 + 1 != 1) = true := by simp; omega
    have hl2 : ¬ ((l.length : Int) + 1 + 1 = 1) := by omega
    simp [c4017, rowsSV, limOk, hl, hl2]
  | [r], hf =>
    obtain ⟨nm, N, S⟩ := r
    have hfit := getD_fit (hf.2 _ (List.mem_singleton.2 rfl)).2.2.1
    simp only at hfit
    have e55 : F55 [.agg [.str nm, .sl (u64s N), .sl (strs S)], .int .i64 32, .int .i64 0] = some (.sv (.bool (decide (N.length = 32) && decide (S.length = 0)))) := by
      have := F55_eq nm (u64s N) (strs S) 32 0
      rw [u64s_length, strs_length] at this
      exact this
    have hok : limOk [⟨nm, N, S⟩] = ((nm == []) && (decide (N.length = 32) && decide (S.length = 0))) := rfl
    have hrs : rowsSV [⟨nm, N, S⟩] = [.agg [.str nm, .sl (u64s N), .sl (strs S)]] := rfl
    rw [hok, hrs]
    by_cases h1 : nm = []
    · subst h1
      by_cases h2 : N.length = 32 ∧ S.length = 0
      · obtain ⟨h2, h3⟩ := h2
        rw [if_pos (by simp [h2, h3])]
        have hb : (decide (N.length = 32) && decide (S.length = 0)) = true := by simp [h2, h3]
        rw [hb] at e55
        obtain ⟨bx', hl⟩ := loop4017 E (evF E 20) 20 h44 h48 [] N h2 hfit (strs S) limTab [] (limHeadL ++ [10]) 0 20 [] rfl rfl (by decide) (by decide)
        have a1 : F44 [.str [76, 105, 109, 105, 116], .int .i64 25] = some (.sv (.str (leftS [76, 105, 109, 105, 116] 25))) := F44_eq [76, 105, 109, 105, 116] 25 (by decide) (by decide)
        have a2 : F44 [.str [83, 111, 102, 116, 32, 76, 105, 109, 105, 116], .int .i64 20] = some (.sv (.str (leftS [83, 111, 102, 116, 32, 76, 105, 109, 105, 116] 20))) := F44_eq [83, 111, 102, 116, 32, 76, 105, 109, 105, 116] 20 (by decide) (by decide)
        have a3 : F44 [.str [72, 97, 114, 100, 32, 76, 105, 109, 105, 116], .int .i64 20] = some (.sv (.str (leftS [72, 97, 114, 100, 32, 76, 105, 109, 105, 116] 20))) := F44_eq [72, 97, 114, 100, 32, 76, 105, 109, 105, 116] 20 (by decide) (by decide)
        have a4 : F44 [.str [85, 110, 105, 116, 115], .int .i64 10] = some (.sv (.str (leftS [85, 110, 105, 116, 115] 10))) := F44_eq [85, 110, 105, 116, 115] 10 (by decide) (by decide)
        refine autoA_sv (n := 20) ?_ rfl
        unfold evPA
        simp only [h]
        unfold st4017 at hl
        rw [show limText [⟨[], N, S⟩] = (limHeadL ++ [10]) ++ limLines N 0 limTab from rfl]
        simp only [Int.ofNat_zero, Int.natCast_zero] at hl
        have hhd : limHeadL ++ [10] = ((((((leftS [76, 105, 109, 105, 116] 25 ++ [32]) ++ leftS [83, 111, 102, 116, 32, 76, 105, 109, 105, 116] 20) ++ [32]) ++ leftS [72, 97, 114, 100, 32, 76, 105, 109, 105, 116] 20) ++ [32]) ++ leftS [85, 110, 105, 116, 115] 10) ++ [10] := by decide
        rw [hhd] at hl ⊢
        have i1 := leftS_len [76, 105, 109, 105, 116] 25
        have i2 := leftS_len [83, 111, 102, 116, 32, 76, 105, 109, 105, 116] 20
        have i3 := leftS_len [72, 97, 114, 100, 32, 76, 105, 109, 105, 116] 20
        have i4 := leftS_len [85, 110, 105, 116, 115] 10
        simp only [List.length_cons, List.length_nil] at i1 i2 i3 i4
        have g1 := add_str (a := leftS [76, 105, 109, 105, 116] 25) (b := [32]) (by simp only [List.length_append, List.length_cons, List.length_nil]; omega)
        have g2 := add_str (a := leftS [76, 105, 109, 105, 116] 25 ++ [32]) (b := leftS [83, 111, 102, 116, 32, 76, 105, 109, 105, 116] 20) (by simp only [List.length_append, List.length_cons, List.length_nil]; omega)
        have g3 := add_str (a := (leftS [76, 105, 109, 105, 116] 25 ++ [32]) ++ leftS [83, 111, 102, 116, 32, 76, 105, 109, 105, 116] 20) (b := [32]) (by simp only [List.length_append, List.length_cons, List.length_nil]; omega)
        have g4 := add_str (a := ((leftS [76, 105, 109, 105, 116] 25 ++ [32]) ++ leftS [83, 111, 102, 116, 32, 76, 105, 109, 105, 116] 20) ++ [32]) (b := leftS [72, 97, 114, 100, 32, 76, 105, 109, 105, 116] 20) (by simp only [List.length_append, List.length_cons, List.length_nil]; omega)
        have g5 := add_str (a := (((leftS [76, 105, 109, 105, 116] 25 ++ [32]) ++ leftS [83, 111, 102, 116, 32, 76, 105, 109, 105, 116] 20) ++ [32]) ++ leftS [72, 97, 114, 100, 32, 76, 105, 109, 105, 116] 20) (b := [32]) (by simp only [List.length_append, List.length_cons, List.length_nil]; omega)
        have g6 := add_str (a := ((((leftS [76, 105, 109, 105, 116] 25 ++ [32]) ++ leftS [83, 111, 102, 116, 32, 76, 105, 109, 105, 116] 20) ++ [32]) ++ leftS [72, 97, 114, 100, 32, 76, 105, 109, 105, 116] 20) ++ [32]) (b := leftS [85, 110, 105, 116, 115] 10) (by simp only [List.length_append, List.length_cons, List.length_nil]; omega)
        have g7 := add_str (a := (((((leftS [76, 105, 109, 105, 116] 25 ++ [32]) ++ leftS [83, 111, 102, 116, 32, 76, 105, 109, 105, 116] 20) ++ [32]) ++ leftS [72, 97, 114, 100, 32, 76, 105, 109, 105, 116] 20) ++ [32]) ++ leftS [85, 110, 105, 116, 115] 10) (b := [10]) (by simp only [List.length_append, List.length_cons, List.length_nil]; omega)
        clear hhd i1 i2 i3 i4
        generalize leftS [76, 105, 109, 105, 116] 25 = w1 at *
        generalize leftS [83, 111, 102, 116, 32, 76, 105, 109, 105, 116] 20 = w2 at *
        generalize leftS [72, 97, 114, 100, 32, 76, 105, 109, 105, 116] 20 = w3 at *
        generalize leftS [85, 110, 105, 116, 115] 10 = w4 at *
        generalize hx1 : w1 ++ [32] = x1 at *
        generalize hx2 : x1 ++ w2 = x2 at *
        generalize hx3 : x2 ++ [32] = x3 at *
        generalize hx4 : x3 ++ w3 = x4 at *
        generalize hx5 : x4 ++ [32] = x5 at *
        generalize hx6 : x5 ++ w4 = x6 at *
        generalize hx7 : x6 ++ [10] = x7 at *
        generalize limLines N 0 limTab = LL at *
        have hLX : (limTab.map limRow).length = 16 := rfl
        generalize limTab.map limRow = LX at *
        generalize u64s N = U at *
        generalize strs S = SS at *
        have q1 : binSV .neq (.int .i64 1) (.int .i64 1) = some (.bool false) := by simp [binSV]
        have q2 : binSV .neq (.str []) (.str []) = some (.bool false) := by simp [binSV]
        simp [-binSV, c4017, q1, q2, h55, e55, h44, a1, a2, a3, a4, g1, g2, g3, g4, g5, g6, g7, hg, hG, hLX, hl]
      · have hb : (decide (N.length = 32) && decide (S.length = 0)) = false := by
          cases hd1 : decide (N.length = 32) with
          | false => rfl
          | true =>
            cases hd2 : decide (S.length = 0) with
            | false => rfl
            | true => exact absurd ⟨of_decide_eq_true hd1, of_decide_eq_true hd2⟩ h2
        rw [hb] at e55 ⊢
        rw [if_neg (by simp)]
        refine autoA_sv (n := 1) ?_ rfl
        unfold evPA
        simp only [h]
        generalize u64s N = U at *
        generalize strs S = SS at *
        simp [c4017, h55, e55]
    · have hb : (nm == []) = false := by simpa using h1
      have hb2 : (nm != []) = true := by simpa using h1
      rw [hb, if_neg (by simp)]
      refine autoA_sv (n := 1) ?_ rfl
      unfold evPA
      simp only [h]
      generalize u64s N = U at *
      generalize strs S = SS at *
      cases hd : (decide (N.length = 32) && decide (S.length = 0)) <;> rw [hd] at e55 <;> simp [c4017, h55, e55, h1, hb, hb2]

end Go.Ev

set_option linter.unusedSimpArgs false
set_option linter.unusedVariables false
namespace Go.Ev
open Go.Proofs

def zN : List Cell := [.sv (.str []), .sv (.int .i64 0), .sv (.bool false), .sv (.int .i64 0), .sv (.int .u64 0), .sv (.flt .f64 0), .sv (.str []), .sv .nilS]

set_option maxRecDepth 100000 in
set_option maxHeartbeats 4000000 in
theorem core4018 (E : Env) (cf : CallF) (m : Nat) (G : List SV → Option AV) (hp : E.pure 34 = some G) (X U S : List SV) (nm : List UInt8) (acc : List SV) (ha : acc.length < 1000000) (i : Nat) (hX : X.length = 16) (hi : i < 16) (hU : U.length = 32) (n l u : List UInt8) (hc : ∀ h : i < X.length, X[i]'h = .agg [.str n, .str l, .str u]) (a : Int) (hau : ∀ h : i < U.length, U[i]'h = .int .u64 a) (hG : G [.str n, .int .u64 a] = some (.sv (nodeV n 3 false 0 a 0 [] []))) (bx : List Box) :
    evCA E cf m b4018_0 { nt := 40, tm := [(19, .sv (.int .i64 i)), (18, .sv (.int .i64 16)), (17, .sv (.sl X)), (6, accA 43 acc), (2, .ptr 0 0), (0, .sv (.sl [.agg [.str nm, .sl U, .sl S]]))], lz := none, bx := .live zN :: bx, df := [] } = some (.normal, { nt := 40, tm := [(19, .sv (.int .i64 ((i + 1 : Nat) : Int))), (18, .sv (.int .i64 16)), (17, .sv (.sl X)), (6, accA 43 (acc ++ [nodeV n 3 false 0 a 0 [] []])), (2, .ptr 0 0), (0, .sv (.sl [.agg [.str nm, .sl U, .sl S]]))], lz := none, bx := .live zN :: (bx ++ [.live [.sv (.str n), .sv (.str l), .sv (.str u)]]), df := [] }) := by
  have hw : IntKind.i64.wrap ((i : Int) + 1) = ((i + 1 : Nat) : Int) := by rw [IntKind.wrap_i64]; omega
  have hi2 : (i : Int) < 16 := by omega
  have l1 : i < X.length := by omega
  have l2 : i < U.length := by omega
  have b1 : (acc.length + 1) * 96 ≤ 140737488355328 := by omega
  have b2 : acc.length + 1 ≤ 140737488355328 := by omega
  unfold nodeV at *
  cases acc with
  | nil => simp [b4018_0, zN, hi2, hi, l1, l2, hc, hau, hp, hG, hw, accA]
  | cons y ys =>
    simp only [List.length_cons] at b1 b2
    simp [b4018_0, zN, hi2, hi, l1, l2, hc, hau, hp, hG, hw, accA, b1, b2]

def kidsFrom (N : List Nat) : Nat → List LimF → List SV
  | _, [] => []
  | i, f :: l => limKid N i f :: kidsFrom N (i + 1) l

theorem loop4018 (E : Env) (cf : CallF) (m : Nat) (h35 : Has E 34 S35o) (nm : List UInt8) (N : List Nat) (hN : N.length = 32) (S : List SV) :
    ∀ (l pre : List LimF) (acc : List SV) (i k : Nat) (bx : List Box), limTab = pre ++ l → i = pre.length → acc.length = i → l.length < k →
      ∃ bx', roundsA (evCA E cf m b4018_0) k { nt := 40, tm := [(19, .sv (.int .i64 i)), (18, .sv (.int .i64 16)), (17, .sv (.sl (limTab.map limRow))), (6, accA 43 acc), (2, .ptr 0 0), (0, .sv (.sl [.agg [.str nm, .sl (u64s N), .sl S]]))], lz := none, bx := .live zN :: bx, df := [] } = some (.exit 0, { nt := 40, tm := [(6, accA 43 (acc ++ kidsFrom N i l)), (2, .ptr 0 0)], lz := none, bx := .live zN :: bx', df := [] }) := by
  obtain ⟨G, hp, hG⟩ := h35
  intro l
  induction l with
  | nil =>
    intro pre acc i k bx hsp hi ha hk
    obtain ⟨k, rfl⟩ : ∃ k', k = k' + 1 := ⟨k - 1, by omega⟩
    have h16 : i = 16 := by rw [hi]; have := congrArg List.length hsp; simpa [limTab] using this.symm
    refine ⟨bx, roundsA_out ?_ (by simp)⟩
    subst h16
    simp only [kidsFrom, List.append_nil]
    cases acc <;> simp [b4018_0, accA]
  | cons f l ih =>
    intro pre acc i k bx hsp hi ha hk
    obtain ⟨k, rfl⟩ : ∃ k', k = k' + 1 := ⟨k - 1, by omega⟩
    have hf : limTab[i]? = some f := by rw [hsp, hi]; simp
    have hi16 : i < 16 := (List.getElem?_eq_some_iff.1 hf).1
    have hst := core4018 E cf m G hp (limTab.map limRow) (u64s N) S nm acc (by omega) i rfl hi16 (by rw [u64s_length, hN]) f.name f.label f.unit (limTab_get hf) _ u64s_at (hG f.name _) bx
    obtain ⟨bx2, he⟩ := ih (pre ++ [f]) (acc ++ [limKid N i f]) (i + 1) k (bx ++ [.live [.sv (.str f.name), .sv (.str f.label), .sv (.str f.unit)]]) (by rw [hsp]; simp) (by simp [hi]) (by simp [ha]) (by simp at hk; omega)
    refine ⟨bx2, ?_⟩
    rw [roundsA_step hst]
    rw [show nodeV f.name 3 false 0 ((N.getD i 0 : Nat) : Int) 0 [] [] = limKid N i f from rfl, he]
    simp [kidsFrom]

def S4018 (F : List SV → Option AV) : Prop := STreeG limOk limTree F

set_option maxHeartbeats 4000000 in
theorem ev4018 (E : Env) (h : E.code 18 = some c4018) (h17 : Has E 17 S4017) (h47 : Has E 47 S4047) (h35 : Has E 34 S35o) (h33 : E.pure 35 = some F33) : S4018 (autoF E 18) := by
  obtain ⟨G, hg, hG⟩ := h47
  unfold S4047 at hG
  obtain ⟨H, hh, hH⟩ := h17
  intro rs hf hok
  have e17 := hH rs hf
  rw [if_pos hok] at e17
  obtain ⟨N, rfl, hN⟩ := limOk_spec hok
  have hrs : rowsSV [⟨[], N, []⟩] = [.agg [.str [], .sl (u64s N), .sl (strs [])]] := rfl
  rw [hrs] at e17 ⊢
  obtain ⟨bx', hl⟩ := loop4018 E (evF E 20) 20 h35 [] N hN (strs []) limTab [] [] 0 20 [] rfl rfl rfl (by decide)
  refine autoA_sv (n := 20) ?_ rfl
  unfold evPA
  simp only [h]
  rw [show limTree [⟨[], N, []⟩] = limTree1 N from rfl]
  have hk : kidsFrom N 0 limTab = [limKid N 0 ln0, limKid N 1 ln1, limKid N 2 ln2, limKid N 3 ln3, limKid N 4 ln4, limKid N 5 ln5, limKid N 6 ln6, limKid N 7 ln7, limKid N 8 ln8, limKid N 9 ln9, limKid N 10 ln10, limKid N 11 ln11, limKid N 12 ln12, limKid N 13 ln13, limKid N 14 ln14, limKid N 15 ln15] := rfl
  rw [hk] at hl
  unfold limTree1 nodeV
  have hF33 : F33 [.str [], .sl [limKid N 0 ln0, limKid N 1 ln1, limKid N 2 ln2, limKid N 3 ln3, limKid N 4 ln4, limKid N 5 ln5, limKid N 6 ln6, limKid N 7 ln7, limKid N 8 ln8, limKid N 9 ln9, limKid N 10 ln10, limKid N 11 ln11, limKid N 12 ln12, limKid N 13 ln13, limKid N 14 ln14, limKid N 15 ln15]] = some (.sv (.agg [.str [], .int .i64 8, .bool false, .int .i64 0, .int .u64 0, .flt .f64 0, .str [], .sl [limKid N 0 ln0, limKid N 1 ln1, limKid N 2 ln2, limKid N 3 ln3, limKid N 4 ln4, limKid N 5 ln5, limKid N 6 ln6, limKid N 7 ln7, limKid N 8 ln8, limKid N 9 ln9, limKid N 10 ln10, limKid N 11 ln11, limKid N 12 ln12, limKid N 13 ln13, limKid N 14 ln14, limKid N 15 ln15]])) := rfl
  simp only [List.nil_append, Int.ofNat_zero, Int.natCast_zero, accA] at hl
  have hLX : (limTab.map limRow).length = 16 := rfl
  generalize limTab.map limRow = LX at *
  generalize u64s N = U at *
  generalize strs [] = SS at *
  generalize limText [⟨[], N, []⟩] = tx at *
  generalize limKid N 0 ln0 = k0 at *
  generalize limKid N 1 ln1 = k1 at *
  generalize limKid N 2 ln2 = k2 at *
  generalize limKid N 3 ln3 = k3 at *
  generalize limKid N 4 ln4 = k4 at *
  generalize limKid N 5 ln5 = k5 at *
  generalize limKid N 6 ln6 = k6 at *
  generalize limKid N 7 ln7 = k7 at *
  generalize limKid N 8 ln8 = k8 at *
  generalize limKid N 9 ln9 = k9 at *
  generalize limKid N 10 ln10 = k10 at *
  generalize limKid N 11 ln11 = k11 at *
  generalize limKid N 12 ln12 = k12 at *
  generalize limKid N 13 ln13 = k13 at *
  generalize limKid N 14 ln14 = k14 at *
  generalize limKid N 15 ln15 = k15 at *
  unfold zN at hl
  simp [c4018, hh, e17, hg, hG, hLX, hl, h33, hF33]

/-! ### What is read -/

def bad4020 (bx : List Box) : SA := { nt := 80, tm := [(4, .sv (.int .i64 2)), (3, .sv (.bool false)), (2, .sv .nilS)], lz := none, bx := bx, df := [] }
def stI4020 (s : List UInt8) (LL : List SV) (x1 x2 : List UInt8) (N : List Nat) (i k : Nat) : SA := { nt := 80, tm := [(40, .sv (.int .i64 k)), (39, .sv (.int .i64 2)), (38, .own 9 [.str x1, .str x2]), (23, .sv (.int .i64 i)), (22, .sv (.int .i64 16)), (21, .sv (.sl LL)), (7, .sv (.int .i64 i)), (6, .mrow 0 32 1), (0, .sv (.str s))], lz := none, bx := [.live ((u64s N).map .sv)], df := [] }

theorem u64s_set (N : List Nat) (p v : Nat) : ((u64s N).map Cell.sv).set p (.sv (.int .u64 (v : Int))) = (u64s (N.set p v)).map .sv := by
  simp [u64s, List.map_set]

set_option maxRecDepth 100000 in
set_option maxHeartbeats 4000000 in
theorem stepI4020 (E : Env) (cf : CallF) (m : Nat) (h52 : E.pure 42 = some F52) (h81 : E.pure 54 = some F81) (s : List UInt8) (LL : List SV) (x1 x2 x : List UInt8) (N : List Nat) (hN : N.length = 32) (i k : Nat) (hi : i < 16) (hk : k < 2) (hx : ∀ h : k < [SV.str x1, SV.str x2].length, [SV.str x1, SV.str x2][k]'h = .str x) (hxl : x.length < 1000) :
    (∃ bx', evCA E cf m b4020_0 (stI4020 s LL x1 x2 N i k) = some (.ret, bad4020 bx')) ∨ ∃ v, v < 18446744073709551616 ∧ evCA E cf m b4020_0 (stI4020 s LL x1 x2 N i k) = some (.normal, stI4020 s LL x1 x2 (N.set (i + 16 * k) v) i (k + 1)) := by
  have hF := F52_eq x (by omega)
  obtain ⟨_, hsh1, hsh2⟩ := fieldsV_shape x
  have hk2 : (k : Int) < 2 := by omega
  have hw : IntKind.i64.wrap ((k : Int) + 1) = ((k + 1 : Nat) : Int) := by rw [IntKind.wrap_i64]; omega
  have hw1 : IntKind.i64.wrap (16 * (k : Int)) = ((16 * k : Nat) : Int) := by rw [IntKind.wrap_i64]; omega
  have hw2 : IntKind.i64.wrap ((i : Int) + ((16 * k : Nat) : Int)) = ((i + 16 * k : Nat) : Int) := by rw [IntKind.wrap_i64]; omega
  obtain ⟨p, hp⟩ : ∃ p, p = i + 16 * k := ⟨_, rfl⟩
  have hp32 : p < 32 := by omega
  have hp32i : (p : Int) < 32 := by omega
  have hul : (u64s N).length = 32 := by rw [u64s_length, hN]
  rw [← hp] at hw2 ⊢
  obtain ⟨q, hq⟩ : ∃ q, q = 16 * k := ⟨_, rfl⟩
  rw [← hq] at hw1 hw2
  clear hp hq
  match hfl : fieldsL x with
  | [] =>
    rw [hfl] at hF
    simp only [strs, List.map_nil] at hF
    refine .inl ⟨[.live ((u64s N).map .sv)], ?_⟩
    unfold stI4020 bad4020
    generalize u64s N = U at *
    simp [b4020_0, hk2, hk, hx, h52, hF]
  | a :: b :: l =>
    rw [hfl] at hF
    simp only [strs, List.map_cons] at hF
    have hne : ((l.length : Int) + 1 + 1 != 1) = true := by simp; omega
    have hne2 : ¬ ((l.length : Int) + 1 + 1 = 1) := by omega
    refine .inl ⟨[.live ((u64s N).map .sv)], ?_⟩
    unfold stI4020 bad4020
    generalize u64s N = U at *
    simp [b4020_0, hk2, hk, hx, h52, hF, hne, hne2]
  | [f] =>
    rw [hfl] at hF hsh2
    simp only [strs, List.map_cons, List.map_nil] at hF
    have hfl2 := hsh2 f (by simp)
    have h81f := F81_eq f (by omega)
    by_cases hun : f = [117, 110, 108, 105, 109, 105, 116, 101, 100]
    · refine .inr ⟨18446744073709551615, by decide, ?_⟩
      have hset := u64s_set N p 18446744073709551615
      unfold stI4020
      rw [← hset]
      subst hun
      have hnv : ∃ v b, F81 [.str [117, 110, 108, 105, 109, 105, 116, 101, 100]] = some (.sv (.tup [.int .u64 v, .bool b])) := by
        rw [h81f]
        split
        · exact ⟨_, _, rfl⟩
        · exact ⟨_, _, rfl⟩
      obtain ⟨v, b, hv⟩ := hnv
      clear hset
      generalize u64s N = U at *
      simp [b4020_0, hk2, hk, hx, h52, hF, h81, hv, hul, hp32, hp32i, hw, hw1, hw2]
    · have hunb : (f == [117, 110, 108, 105, 109, 105, 116, 101, 100]) = false := by simpa using hun
      cases hnv : numV 10 0 f with
      | none =>
        rw [hnv] at h81f
        refine .inl ⟨[.live ((u64s N).map .sv)], ?_⟩
        unfold stI4020 bad4020
        generalize u64s N = U at *
        simp [b4020_0, hk2, hk, hx, h52, hF, h81, h81f, hun, hunb]
      | some v =>
        rw [hnv] at h81f
        simp only at h81f
        have hvl := numV_lt (base := 10) (by decide) f 0 v (by decide) hnv
        cases hfe : (f == []) with
        | true =>
          rw [hfe] at h81f
          refine .inl ⟨[.live ((u64s N).map .sv)], ?_⟩
          unfold stI4020 bad4020
          generalize u64s N = U at *
          simp [b4020_0, hk2, hk, hx, h52, hF, h81, h81f, hun, hunb]
        | false =>
          rw [hfe] at h81f
          refine .inr ⟨v, hvl, ?_⟩
          have hset := u64s_set N p v
          unfold stI4020
          rw [← hset]
          clear hset
          generalize u64s N = U at *
          simp [b4020_0, hk2, hk, hx, h52, hF, h81, h81f, hun, hunb, hul, hp32, hp32i, hw, hw1, hw2]

def stO4020 (s : List UInt8) (LL : List SV) (N : List Nat) (i : Nat) : SA := { nt := 80, tm := [(23, .sv (.int .i64 i)), (22, .sv (.int .i64 16)), (21, .sv (.sl LL)), (6, .mrow 0 32 1), (0, .sv (.str s))], lz := none, bx := [.live ((u64s N).map .sv)], df := [] }

def fitN (N : List Nat) : Prop := N.length = 32 ∧ ∀ n ∈ N, n < 18446744073709551616

theorem fitN_set {N : List Nat} (h : fitN N) {p v : Nat} (hv : v < 18446744073709551616) : fitN (N.set p v) := by
  refine ⟨by simpa using h.1, fun n hn => ?_⟩
  rcases List.mem_or_eq_of_mem_set hn with hn | rfl
  · exact h.2 n hn
  · exact hv

set_option maxRecDepth 100000 in
set_option maxHeartbeats 4000000 in
theorem stepO4020 (E : Env) (cf : CallF) (m : Nat) (h52 : E.pure 42 = some F52) (h81 : E.pure 54 = some F81) (s : List UInt8) (LL : List SV) (hLL : LL.length = 16) (c : List UInt8) (N : List Nat) (hN : fitN N) (i : Nat) (hi : i < 16) (hc : ∀ h : i < LL.length, LL[i]'h = .str c) (hcl : c.length < 1000000) :
    (∃ bx', evCA E cf (m + 3) b4020_1 (stO4020 s LL N i) = some (.ret, bad4020 bx')) ∨ ∃ N', fitN N' ∧ evCA E cf (m + 3) b4020_1 (stO4020 s LL N i) = some (.normal, stO4020 s LL N' (i + 1)) := by
  have hi2 : (i : Int) < 16 := by omega
  have hw : IntKind.i64.wrap ((i : Int) + 1) = ((i + 1 : Nat) : Int) := by rw [IntKind.wrap_i64]; omega
  have l1 : i < LL.length := by omega
  by_cases h47 : c.length < 47
  · have h47i : (c.length : Int) < 47 := by omega
    refine .inl ⟨[.live ((u64s N).map .sv)], ?_⟩
    unfold stO4020 bad4020
    generalize u64s N = U at *
    simp [b4020_1, hi2, hi, l1, hc, h47i, h47]
  · have h47i : ¬ (c.length : Int) < 47 := by omega
    have a1 : 46 ≤ c.length := by omega
    obtain ⟨q, hq⟩ : ∃ q, q = min 67 c.length := ⟨_, rfl⟩
    have hmm : (if (c.length : Int) < 67 then (c.length : Int) else 67) = (q : Int) := by
      rw [hq]; split <;> omega
    have hql : q ≤ c.length := by omega
    have hq47 : 47 ≤ q := by omega
    have hq67 : q ≤ 67 := by omega
    have a1i : (46 : Int) ≤ (c.length : Int) := by omega
    have hq47i : (47 : Int) ≤ (q : Int) := by omega
    have e1 : ((c.take 46).drop 26).length < 1000 := by simp only [List.length_drop, List.length_take]; omega
    have e2 : ((c.take q).drop 47).length < 1000 := by simp only [List.length_drop, List.length_take]; omega
    clear hq
    generalize hx1 : (c.take 46).drop 26 = x1 at *
    generalize hx2 : (c.take q).drop 47 = x2 at *
    have key : (∃ bx', roundsA (evCA E cf (m + 3) b4020_0) (m + 3) (stI4020 s LL x1 x2 N i 0) = some (.ret, bad4020 bx')) ∨ ∃ N', fitN N' ∧ roundsA (evCA E cf (m + 3) b4020_0) (m + 3) (stI4020 s LL x1 x2 N i 0) = some (.exit 2, stO4020 s LL N' i) := by
      rcases stepI4020 E cf (m + 3) h52 h81 s LL x1 x2 x1 N hN.1 i 0 hi (by decide) (fun h => rfl) e1 with ⟨bx', h⟩ | ⟨v, hv, h⟩
      · exact .inl ⟨bx', roundsA_out h (by simp)⟩
      · have hN1 := fitN_set (p := i + 16 * 0) hN hv
        rcases stepI4020 E cf (m + 3) h52 h81 s LL x1 x2 x2 _ hN1.1 i 1 hi (by decide) (fun h => rfl) e2 with ⟨bx', h'⟩ | ⟨v', hv', h'⟩
        · refine .inl ⟨bx', ?_⟩
          rw [roundsA_step h]
          exact roundsA_out h' (by simp)
        · refine .inr ⟨_, fitN_set (p := i + 16 * 1) hN1 hv', ?_⟩
          rw [roundsA_step h, roundsA_step h']
          refine roundsA_out (n := m) ?_ (by simp)
          unfold stI4020 stO4020
          generalize u64s (((N.set (i + 16 * 0) v).set (i + 16 * 1) v')) = U
          simp [b4020_0]
    rcases key with ⟨bx', h⟩ | ⟨N', hN', h⟩
    · refine .inl ⟨bx', ?_⟩
      unfold stI4020 at h
      unfold stO4020
      simp only [Int.ofNat_zero, Int.natCast_zero] at h
      generalize u64s N = U at *
      simp [b4020_1, hi2, hi, l1, hc, h47i, h47, a1, a1i, hmm, hql, hq47, hq47i, hx1, hx2, h]
    · refine .inr ⟨N', hN', ?_⟩
      unfold stI4020 at h
      unfold stO4020 at *
      simp only [Int.ofNat_zero, Int.natCast_zero] at h
      generalize u64s N = U at *
      generalize u64s N' = U' at *
      simp [b4020_1, hi2, hi, l1, hc, h47i, h47, a1, a1i, hmm, hql, hq47, hq47i, hx1, hx2, h, hw]

theorem loopO4020 (E : Env) (cf : CallF) (m : Nat) (h52 : E.pure 42 = some F52) (h81 : E.pure 54 = some F81) (s : List UInt8) (LL : List SV) (hLL : LL.length = 16) :
    ∀ (rest : List (List UInt8)) (pre : List SV) (N : List Nat) (i k : Nat), LL = pre ++ strs rest → i = pre.length → fitN N → (∀ x ∈ rest, x.length < 1000000) → rest.length < k →
      (∃ bx', roundsA (evCA E cf (m + 3) b4020_1) k (stO4020 s LL N i) = some (.ret, bad4020 bx')) ∨ ∃ N', fitN N' ∧ roundsA (evCA E cf (m + 3) b4020_1) k (stO4020 s LL N i) = some (.exit 0, { nt := 80, tm := [(6, .mrow 0 32 1), (0, .sv (.str s))], lz := none, bx := [.live ((u64s N').map .sv)], df := [] }) := by
  intro rest
  induction rest with
  | nil =>
    intro pre N i k hsp hi hN _ hk
    obtain ⟨k, rfl⟩ : ∃ k', k = k' + 1 := ⟨k - 1, by omega⟩
    have h16 : i = 16 := by rw [hi, ← hLL, hsp]; simp [strs]
    refine .inr ⟨N, hN, roundsA_out ?_ (by simp)⟩
    subst h16
    unfold stO4020
    generalize u64s N = U at *
    simp [b4020_1]
  | cons c rest ih =>
    intro pre N i k hsp hi hN hr hk
    obtain ⟨k, rfl⟩ : ∃ k', k = k' + 1 := ⟨k - 1, by omega⟩
    have hi16 : i < 16 := by rw [hi, ← hLL, hsp]; simp [strs]
    have hc : ∀ h : i < LL.length, LL[i]'h = .str c := by subst hi; subst hsp; simp [strs]
    rcases stepO4020 E cf m h52 h81 s LL hLL c N hN i hi16 hc (hr c (by simp)) with ⟨bx', h⟩ | ⟨N', hN', h⟩
    · exact .inl ⟨bx', roundsA_out h (by simp)⟩
    · rw [roundsA_step h]
      exact ih (pre ++ [.str c]) N' (i + 1) k (by rw [hsp]; simp [strs]) (by simp [hi]) hN' (fun x hx => hr x (by simp [hx])) (by simp at hk; omega)

def S4020 (F : List SV → Option AV) : Prop := SReadG limRd limOk F

def S31l (F : List SV → Option AV) : Prop := SMeanG 17 limOk limText F
theorem ev31l (E : Env) (h : E.code 45 = some c31) (h78 : E.pure 174 = some F78) (h17 : Has E 17 S4017) : S31l (autoF E 45) := mean31 E h h78 _ h17

set_option maxRecDepth 100000 in
set_option maxHeartbeats 4000000 in
theorem ev4020 (E : Env) (h : E.code 20 = some c4020) (h28 : E.pure 41 = some F28) (h52 : E.pure 42 = some F52) (h81 : E.pure 54 = some F81) (h31 : Has E 45 S31l) : S4020 (autoF E 20) := by
  obtain ⟨M, pM, sM⟩ := h31
  intro s hs
  have e28 := F28_eq s (by omega)
  obtain ⟨_, k1, k2⟩ := linesV_shape s
  have bad : ∀ (X : SA), (∃ bx, X = bad4020 bx) → True := fun _ _ => trivial
  by_cases h17 : (linesL s).length = 17
  · obtain ⟨c0, ls, hls⟩ : ∃ c0 ls, linesL s = c0 :: ls := by
      cases hh : linesL s with
      | nil => rw [hh] at h17; simp at h17
      | cons a b => exact ⟨a, b, rfl⟩
    rw [hls] at h17 e28 k2
    have hl16 : (strs ls).length = 16 := by rw [strs_length]; simpa using h17
    have hN0 : fitN (List.replicate 32 0) := ⟨by simp, fun n hn => by rw [List.eq_of_mem_replicate hn]; decide⟩
    have hl := loopO4020 E (evF E 20) 17 h52 h81 s (strs ls) hl16 ls [] (List.replicate 32 0) 0 20 rfl rfl hN0 (fun x hx => by have := k2 x (by simp [hx]); omega) (by rw [strs_length] at hl16; omega)
    have hst : strs (c0 :: ls) = .str c0 :: strs ls := rfl
    rw [hst] at e28
    have hu : (∀ x : SV, x ∈ strs ls → x.cells.length = 1) = True := eq_true (fun x hx => by
      obtain ⟨y, _, rfl⟩ := List.mem_map.1 hx
      rfl)
    simp only [SV.cells] at hu
    have htk : (strs ls).take 16 = strs ls := List.take_of_length_le (by omega)
    have hz : (u64s (List.replicate 32 0)).map Cell.sv = List.replicate 32 (.sv (.int .u64 0)) := by simp [u64s]
    unfold stO4020 at hl
    rw [hz] at hl
    simp only [Int.ofNat_zero, Int.natCast_zero, show 17 + 3 = 20 from rfl] at hl
    rcases hl with ⟨bx', hl⟩ | ⟨N', hN', hl⟩
    · right
      refine ⟨[], false, autoA_sv (n := 20) ?_ rfl⟩
      unfold evPA
      simp only [h]
      unfold bad4020 at hl
      generalize strs ls = LL at *
      simp only [List.replicate] at hl
      simp [c4020, h28, e28, hl16, hu, htk, hl]
    · have hfit : rowsFit3 [⟨[], N', []⟩] := ⟨by simp, fun r hr => by
        rw [List.mem_singleton.1 hr]
        exact ⟨by simp, by rw [hN'.1]; decide, hN'.2, by simp, by simp⟩⟩
      have eM := sM s [⟨[], N', []⟩] true (by omega) hfit
      have hrs : rowsSV [⟨[], N', []⟩] = [.agg [.str [], .sl (u64s N'), .sl []]] := rfl
      have hul : (u64s N').length = 32 := by rw [u64s_length, hN'.1]
      have hpl : (u64s N').map SV.can0 = u64s N' := by unfold u64s; rw [List.map_map]; rfl
      have hpl2 : (u64s N').map (Cell.plain ∘ Cell.sv) = u64s N' := by unfold u64s; rw [List.map_map]; rfl
      by_cases hcd : s.all plainC = true ∧ limOk [⟨[], N', []⟩] = true ∧ limText [⟨[], N', []⟩] = s
      · rw [if_pos ⟨rfl, hcd⟩] at eM
        left
        refine ⟨[⟨[], N', []⟩], hcd.2.2, hfit, hcd.2.1, autoA_sv (n := 20) ?_ rfl⟩
        unfold evPA
        simp only [h]
        rw [hrs] at eM ⊢
        generalize strs ls = LL at *
        generalize u64s N' = U at *
        simp only [List.replicate] at hl
        simp [c4020, h28, e28, hl16, hu, htk, hl, hul, hpl, hpl2, pM, eM]
      · rw [if_neg (fun hh => hcd hh.2)] at eM
        right
        refine ⟨[], false, autoA_sv (n := 20) ?_ rfl⟩
        unfold evPA
        simp only [h]
        rw [hrs] at eM
        generalize strs ls = LL at *
        generalize u64s N' = U at *
        simp only [List.replicate] at hl
        simp [c4020, h28, e28, hl16, hu, htk, hl, hul, hpl, hpl2, pM, eM]
  · right
    have h17i : ¬ (((strs (linesL s)).length : Int) = 17) := by rw [strs_length]; omega
    have h17b : ((((strs (linesL s)).length : Nat) : Int) != 17) = true := by simpa using h17i
    refine ⟨[], false, autoA_sv (n := 1) ?_ rfl⟩
    unfold evPA
    simp only [h]
    generalize strs (linesL s) = LL at *
    simp [c4020, h28, e28, h17i, h17b]

/-! ### The laws -/

theorem limLaw : LawG limRd limOk limText limTree where
  back := fun rs _ _ => rfl
  node := fun rs _ ho => limLaw_node ho

def S9li (F : List SV → Option AV) : Prop := S9g 20 18 19 F
def S13li (F : List SV → Option AV) : Prop := S9g 20 17 19 F
def S1016li (F : List SV → Option AV) : Prop := S1016g 17 18 19 F

theorem ev9li (E : Env) (h : E.code 16 = some c9) (hR : Has E 20 S4020) (hT : Has E 18 S4018) (hD : Has E 19 S4019) (h25 : E.pure 22 = some F25) (h26 : E.pure 23 = some F26) (h27 : E.pure 24 = some F27) : S9li (autoF E 16) := ev9G limLaw E h _ _ _ hR hT hD h25 h26 h27
theorem ev13li (E : Env) (h : E.code 14 = some c13) (hR : Has E 20 S4020) (hP : Has E 17 S4017) (hD : Has E 19 S4019) (h25 : E.pure 22 = some F25) (h26 : E.pure 23 = some F26) (h27 : E.pure 24 = some F27) : S13li (autoF E 14) := ev13G limLaw E h _ _ _ hR hP hD h25 h26 h27
theorem ev1016li (E : Env) (h : E.code 10 = some c1016) (hP : Has E 17 S4017) (hT : Has E 18 S4018) (hD : Has E 19 S4019) (h25 : E.pure 22 = some F25) (h26 : E.pure 23 = some F26) (h27 : E.pure 24 = some F27) : S1016li (autoF E 10) := ev1016G limLaw E h _ _ _ hP hT hD h25 h26 h27

theorem ev4008 (E : Env) (h : E.code 8 = some c4008) (hL : Has E 16 S9li) (s : List UInt8) (n : Nat) : evP E n 8 [.str s] = some (.sv (.bool true)) := by
  obtain ⟨F, hp, hF⟩ := hL
  have hF1 := hF s
  unfold evP
  simp only [h]
  by_cases hs : 2147483647 < s.length
  · have e : (2147483647 : Int) < (s.length : Int) := by omega
    simp [c4008, List.replicate, e]
  · have e : ¬ (2147483647 : Int) < (s.length : Int) := by omega
    simp [c4008, List.replicate, e, hp, hF1]

theorem ev4007 (E : Env) (h : E.code 7 = some c4007) (hL : Has E 14 S13li) (s : List UInt8) (n : Nat) : evP E n 7 [.str s] = some (.sv (.bool true)) := by
  obtain ⟨F, hp, hF⟩ := hL
  have hF1 := hF s
  unfold evP
  simp only [h]
  by_cases hs : 2147483647 < s.length
  · have e : (2147483647 : Int) < (s.length : Int) := by omega
    simp [c4007, List.replicate, e]
  · have e : ¬ (2147483647 : Int) < (s.length : Int) := by omega
    simp [c4007, List.replicate, e, hp, hF1]

theorem ev4006 (E : Env) (h : E.code 6 = some c4006) (h15 : E.pure 9 = some F1015) (h16 : Has E 10 S1016li) (l : List RowD) (hn : ∀ r ∈ l, ∀ n ∈ r.N, n < 18446744073709551616) (n : Nat) : evP E n 6 [.sl (rowsSV l)] = some (.sv (.bool true)) := by
  obtain ⟨G, hp, hG⟩ := h16
  unfold evP
  simp only [h]
  have hF := F1015_eq l
  cases hz : zzRows l with
  | false => rw [hz] at hF; simp [c4006, List.replicate, h15, hF]
  | true =>
    rw [hz] at hF
    have hF2 := hG l hz hn
    simp [c4006, List.replicate, h15, hF, hp, hF2]

end Go.Ev

set_option linter.unusedSimpArgs false
set_option linter.unusedVariables false
namespace Go.Ev
open Go.Proofs
variable {P : Program} {E : Env}

theorem ev4051c (E : Env) (h : E.code 51 = some c4051) (h183 : Has E 183 S4183) (h93 : Has E 185 S3193g) (h86 : Has E 186 S4186) (h88 : E.code 182 = some c88) (h90 : E.code 184 = some c90) (hp88 : E.pure 182 = none) (hp90 : E.pure 184 = none) (hlk : E.look 187 = some 3) (hq : E.quiet 180 = true) (h84 : E.pure 178 = some F84) (h2193 : Has E 179 S2193t) (h87 : E.code 181 = some c87) (hp87 : E.pure 181 = none) (hp128 : E.pure 187 = none) : S4051 (autoF E 51) :=
  ev4051 E h ⟨h183, h93, h86, h88, h90, hp88, hp90⟩ hlk hq h84 h2193 h87 hp87 hp128

/-- A law of one text. -/
theorem ptOf (B : Base P E) {f : Nat} (h : ∀ s n, evP E n f [.str s] = some (.sv (.bool true))) : PureFn P E f F8x := by
  refine PureFn.of B.m B.T B.Q B.P fun vs r hF => ?_
  unfold F8x at hF
  split at hF
  · rename_i s
    simp only [Option.some.injEq] at hF; subst hF
    exact ⟨1, _, h s 1, .inl rfl⟩
  · cases hF

/-- A law of rows. -/
theorem pbOf (B : Base P E) {f : Nat} (h : ∀ l : List RowD, (∀ r ∈ l, ∀ n ∈ r.N, n < 18446744073709551616) → ∀ n, evP E n f [.sl (rowsSV l)] = some (.sv (.bool true))) : PureFn P E f F1003 := by
  refine PureFn.of B.m B.T B.Q B.P fun vs r hF => ?_
  unfold F1003 at hF
  split at hF
  · rename_i l
    obtain ⟨⟨h1, h2⟩, hr⟩ := onlyIf_some hF
    simp only [Option.some.injEq] at hr; subst hr
    refine ⟨1, _, ?_, .inl rfl⟩
    have := h (l.map unrow) h2 1
    rw [← h1] at this
    exact this
  · cases hF

end Go.Ev
