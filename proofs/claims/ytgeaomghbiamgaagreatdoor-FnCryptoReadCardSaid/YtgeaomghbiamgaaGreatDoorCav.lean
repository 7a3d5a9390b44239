/- strings.TrimSpace of a text of ASCII. -/
/- Crypto: the fields' names, what is fine (lines printed by a program of this work). -/
/- Crypto: what is written. -/
/- Crypto: the reference's tree. -/
import Derived.Test.YtgeaomghbiamgaaGreatDoorCau
import Derived.Test.YtgeaomghbiamgaaGreatDoorCal
import Derived.Test.YtgeaomghbiamgaaGreatDoorCan
import Derived.Test.YtgeaomghbiamgaaGreatDoorCat
set_option linter.unusedSimpArgs false
set_option linter.unusedVariables false
namespace Go.Ev
open Go.Proofs

def stT3193 (x y z : AV) (W : List UInt8) (i : Nat) : SA := { nt := 54, tm := [(10, x), (9, y), (8, z), (5, .sv (.int .i64 i)), (0, .sv (.str W))], lz := none, bx := [], df := [] }

set_option maxHeartbeats 4000000 in
theorem stepT3193 (E : Env) (cf : CallF) (m : Nat) (hT : SpT E) (x y z : AV) (W : List UInt8) (hs : W.length < 1000000000) (i : Nat) (hi1 : 1 ≤ i) (c : UInt8) (hc : W[i]? = some c) (hb : spC c = true) (h8 : c.toNat < 128) :
    evCA E cf m b3193_0 (stT3193 x y z W i) = some (.normal, stT3193 x y z W (i - 1)) := by
  have hi : i < W.length := (List.getElem?_eq_some_iff.1 hc).1
  have hw : IntKind.i64.wrap ((i : Int) - 1) = ((i - 1 : Nat) : Int) := by rw [IntKind.wrap_i64]; omega
  have hg : ∀ h : i < W.length, W[i]'h = c := by
    intro h
    rw [List.getElem?_eq_getElem h] at hc
    simpa using hc
  have hsp := hT c h8
  have hv : spV c = 1 := by unfold spV; rw [hb]; rfl
  rw [hv] at hsp
  have e128 : ¬ (128 : Int) ≤ (c.toNat : Int) := by omega
  have e256 : (c.toNat : Int) < 256 := by omega
  have hge : (0 : Int) ≤ (i : Int) := by omega
  simp [stT3193, b3193_0, hge, hi, hg, e128, e256, hsp, hw]

set_option maxHeartbeats 4000000 in
theorem stepE3193 (E : Env) (cf : CallF) (m : Nat) (hT : SpT E) (x y z : AV) (W : List UInt8) (hs : W.length < 1000000000) (i : Nat) (c : UInt8) (hc : W[i]? = some c) (hb : spC c = false) (h8 : c.toNat < 128) :
    evCA E cf m b3193_0 (stT3193 x y z W i) = some (.ret, { nt := 54, tm := [(2, .sv (.str (W.take (i + 1))))], lz := none, bx := [], df := [] }) := by
  have hi : i < W.length := (List.getElem?_eq_some_iff.1 hc).1
  have hw : IntKind.i64.wrap ((i : Int) + 1) = ((i + 1 : Nat) : Int) := by rw [IntKind.wrap_i64]; omega
  have hg : ∀ h : i < W.length, W[i]'h = c := by
    intro h
    rw [List.getElem?_eq_getElem h] at hc
    simpa using hc
  have hsp := hT c h8
  have hv : spV c = 0 := by unfold spV; rw [hb]; rfl
  rw [hv] at hsp
  have e128 : ¬ (128 : Int) ≤ (c.toNat : Int) := by omega
  have e256 : (c.toNat : Int) < 256 := by omega
  have hge : (0 : Int) ≤ (i : Int) := by omega
  have hle : i + 1 ≤ W.length := by omega
  obtain ⟨j, hj⟩ : ∃ j, j = i + 1 := ⟨_, rfl⟩
  rw [← hj] at hw hle ⊢
  simp [stT3193, b3193_0, hge, hi, hg, e128, e256, hsp, hw, hle]

theorem loopT3193 (E : Env) (cf : CallF) (m : Nat) (hT : SpT E) (x y z : AV) (w T : List UInt8) (hs : (w ++ T).length < 1000000000) (hTs : ∀ c ∈ T, spC c = true ∧ c.toNat < 128) (hw0 : w ≠ []) (d : UInt8) (hd : w.getLast? = some d) (hd1 : spC d = false) (hd8 : d.toNat < 128) :
    ∀ j k : Nat, j ≤ T.length → j < k → roundsA (evCA E cf m b3193_0) k (stT3193 x y z (w ++ T) (w.length + j - 1)) = some (.ret, { nt := 54, tm := [(2, .sv (.str w))], lz := none, bx := [], df := [] }) := by
  have hwl : 1 ≤ w.length := by cases w with | nil => exact absurd rfl hw0 | cons c t => simp
  intro j
  induction j with
  | zero =>
    intro k _ hk
    obtain ⟨k, rfl⟩ : ∃ k', k = k' + 1 := ⟨k - 1, by omega⟩
    have hc : (w ++ T)[w.length + 0 - 1]? = some d := by
      rw [List.getElem?_append_left (by omega)]
      rw [List.getLast?_eq_getElem?] at hd
      simpa using hd
    have he := stepE3193 E cf m hT x y z (w ++ T) hs _ d hc hd1 hd8
    rw [show w.length + 0 - 1 + 1 = w.length by omega, List.take_left] at he
    exact roundsA_out he (by simp)
  | succ j ih =>
    intro k hj hk
    obtain ⟨k, rfl⟩ : ∃ k', k = k' + 1 := ⟨k - 1, by omega⟩
    have hjl : j < T.length := by omega
    have hc : (w ++ T)[w.length + (j + 1) - 1]? = some T[j] := by
      rw [List.getElem?_append_right (by omega), show w.length + (j + 1) - 1 - w.length = j by omega]
      simp [hjl]
    obtain ⟨h1, h2⟩ := hTs T[j] (List.getElem_mem _)
    have he := stepT3193 E cf m hT x y z (w ++ T) hs _ (by omega) _ hc h1 h2
    rw [roundsA_step he, show w.length + (j + 1) - 1 - 1 = w.length + j - 1 by omega]
    exact ih k (by omega) (by omega)

def S3193g (F : List SV → Option AV) : Prop := ∀ (B w T : List UInt8) (c d : UInt8), (B ++ (w ++ T)).length < 1000000000 → (∀ c ∈ B, spC c = true ∧ c.toNat < 128) → (∀ c ∈ T, spC c = true ∧ c.toNat < 128) →
  w.head? = some c → spC c = false → c.toNat < 128 → w.getLast? = some d → spC d = false → d.toNat < 128 → F [.str (B ++ (w ++ T))] = some (.sv (.str w))

set_option maxHeartbeats 4000000 in
theorem stepV3193 (E : Env) (cf : CallF) (m : Nat) (hT : SpT E) (B w T : List UInt8) (c d : UInt8) (hs : (B ++ (w ++ T)).length < 1000000000) (hm : T.length < m) (hTs : ∀ c ∈ T, spC c = true ∧ c.toNat < 128) (hc : w.head? = some c) (hc1 : spC c = false) (hc8 : c.toNat < 128) (hd : w.getLast? = some d) (hd1 : spC d = false) (hd8 : d.toNat < 128) :
    evCA E cf m b3193_1 (st3193 (B ++ (w ++ T)) B.length) = some (.ret, { nt := 54, tm := [(2, .sv (.str w))], lz := none, bx := [], df := [] }) := by
  have hw0 : w ≠ [] := by rintro rfl; simp at hc
  have hwl : 1 ≤ w.length := by cases w with | nil => exact absurd rfl hw0 | cons c t => simp
  have hlen : (B ++ (w ++ T)).length = B.length + (w.length + T.length) := by simp
  have hi : B.length < (B ++ (w ++ T)).length := by omega
  have hgc : (bytesSV (B ++ (w ++ T)))[B.length]? = some (.int .u8 (c.toNat : Int)) := by
    obtain ⟨t, rfl⟩ : ∃ t, w = c :: t := by
      cases w with
      | nil => simp at hc
      | cons x t => simp at hc; subst hc; exact ⟨t, rfl⟩
    simp [bytesSV]
  have hil : B.length < (bytesSV (B ++ (w ++ T))).length := by rw [bytesSV_length]; exact hi
  have hg : ∀ h : B.length < (bytesSV (B ++ (w ++ T))).length, (bytesSV (B ++ (w ++ T)))[B.length]'h = .int .u8 (c.toNat : Int) := by
    intro h
    rw [List.getElem?_eq_getElem h] at hgc
    simpa using hgc
  have hsp := hT c hc8
  have hv : spV c = 0 := by unfold spV; rw [hc1]; rfl
  rw [hv] at hsp
  have e128 : ¬ (128 : Int) ≤ (c.toNat : Int) := by omega
  have e256 : (c.toNat : Int) < 256 := by omega
  have hdrop : (B ++ (w ++ T)).drop B.length = w ++ T := List.drop_left
  have hwl1 : IntKind.i64.wrap (((w ++ T).length : Int) - 1) = ((w.length + T.length - 1 : Nat) : Int) := by
    rw [IntKind.wrap_i64, List.length_append]; omega
  have hBl : (B.length : Int) ≤ ((B ++ (w ++ T)).length : Int) := by omega
  have hBn : B.length ≤ (B ++ (w ++ T)).length := by omega
  have htl : (B ++ (w ++ T)).take (B ++ (w ++ T)).length = B ++ (w ++ T) := List.take_length
  have hin := loopT3193 E cf m hT (.sv (.int .i64 B.length)) (.sv (.int .i64 (B ++ (w ++ T)).length)) (.sv (.sl (bytesSV (B ++ (w ++ T))))) w T (by rw [List.length_append]; omega) hTs hw0 d hd hd1 hd8 T.length m (Nat.le_refl _) hm
  unfold stT3193 at hin
  unfold st3193
  have hlI : (B.length : Int) < ((B ++ (w ++ T)).length : Int) := by omega
  clear hlen hgc hTs
  generalize hS : bytesSV (B ++ (w ++ T)) = SB at *
  generalize hX : B ++ (w ++ T) = X at *
  generalize hW : w ++ T = W at *
  generalize w.length + T.length - 1 = q at *
  generalize hb0 : B.length = bl at *
  generalize hx0 : X.length = xl at *
  generalize hwn : W.length = wn at *
  simp [b3193_1, hx0, hi, hlI, hil, hg, e128, e256, hsp, hBl, hBn, htl, hdrop, hwn, hwl1, hin]

theorem loop3193g (E : Env) (cf : CallF) (m : Nat) (hT : SpT E) (B w T : List UInt8) (c d : UInt8) (hs : (B ++ (w ++ T)).length < 1000000000) (hm : T.length < m) (hB : ∀ c ∈ B, spC c = true ∧ c.toNat < 128) (hTs : ∀ c ∈ T, spC c = true ∧ c.toNat < 128) (hc : w.head? = some c) (hc1 : spC c = false) (hc8 : c.toNat < 128) (hd : w.getLast? = some d) (hd1 : spC d = false) (hd8 : d.toNat < 128) :
    ∀ (rest pre : List UInt8) (k : Nat), B = pre ++ rest → rest.length < k → roundsA (evCA E cf m b3193_1) k (st3193 (B ++ (w ++ T)) pre.length) = some (.ret, { nt := 54, tm := [(2, .sv (.str w))], lz := none, bx := [], df := [] }) := by
  intro rest
  induction rest with
  | nil =>
    intro pre k hsp hk
    obtain ⟨k, rfl⟩ : ∃ k', k = k' + 1 := ⟨k - 1, by omega⟩
    rw [List.append_nil] at hsp
    subst hsp
    exact roundsA_out (stepV3193 E cf m hT B w T c d hs hm hTs hc hc1 hc8 hd hd1 hd8) (by simp)
  | cons x rest ih =>
    intro pre k hsp hk
    obtain ⟨k, rfl⟩ : ∃ k', k = k' + 1 := ⟨k - 1, by omega⟩
    obtain ⟨h1, h2⟩ := hB x (by rw [hsp]; simp)
    have hst := stepB3193 E cf m hT (B ++ (w ++ T)) hs pre.length (by rw [hsp]; simp) x (by rw [hsp]; simp) h1 h2
    rw [roundsA_step hst]
    have he := ih (pre ++ [x]) k (by rw [hsp]; simp) (by simp at hk; omega)
    rw [List.length_append, List.length_singleton] at he
    exact he

theorem ev3193g (E : Env) (h : E.code 128 = some c3193) (hT : SpT E) : S3193g (autoF E 128) := by
  intro B w T c d hs hB hTs hc hc1 hc8 hd hd1 hd8
  have hl := loop3193g E (evF E ((B ++ (w ++ T)).length + 1)) ((B ++ (w ++ T)).length + 1) hT B w T c d hs (by simp; omega) hB hTs hc hc1 hc8 hd hd1 hd8 B [] ((B ++ (w ++ T)).length + 1) rfl (by simp; omega)
  refine autoA_sv (n := (B ++ (w ++ T)).length + 1) ?_ rfl
  unfold evPA
  simp only [h]
  simp only [List.length_nil, st3193, Int.ofNat_zero, Int.natCast_zero] at hl
  have hbl : (bytesSV (B ++ (w ++ T))).length = (B ++ (w ++ T)).length := bytesSV_length _
  generalize B ++ (w ++ T) = X at *
  simp [c3193, hbl, hl]

end Go.Ev

set_option linter.unusedSimpArgs false
set_option linter.unusedVariables false
namespace Go.Ev
open Go.Proofs

structure CrF where
  nm : List UInt8
  lab : List UInt8
  k : UInt8
  deriving DecidableEq

def cr0 : CrF := ⟨[65, 108, 105, 103, 110, 109, 97, 115, 107], [97, 108, 105, 103, 110, 109, 97, 115, 107], 117⟩
def cr1 : CrF := ⟨[65, 115, 121, 110, 99], [97, 115, 121, 110, 99], 98⟩
def cr2 : CrF := ⟨[66, 108, 111, 99, 107, 115, 105, 122, 101], [98, 108, 111, 99, 107, 115, 105, 122, 101], 117⟩
def cr3 : CrF := ⟨[67, 104, 117, 110, 107, 115, 105, 122, 101], [99, 104, 117, 110, 107, 115, 105, 122, 101], 117⟩
def cr4 : CrF := ⟨[67, 116, 120, 115, 105, 122, 101], [99, 116, 120, 115, 105, 122, 101], 117⟩
def cr5 : CrF := ⟨[68, 105, 103, 101, 115, 116, 115, 105, 122, 101], [100, 105, 103, 101, 115, 116, 115, 105, 122, 101], 117⟩
def cr6 : CrF := ⟨[68, 114, 105, 118, 101, 114], [100, 114, 105, 118, 101, 114], 115⟩
def cr7 : CrF := ⟨[71, 101, 110, 105, 118], [103, 101, 110, 105, 118], 115⟩
def cr8 : CrF := ⟨[73, 110, 116, 101, 114, 110, 97, 108], [105, 110, 116, 101, 114, 110, 97, 108], 115⟩
def cr9 : CrF := ⟨[73, 118, 115, 105, 122, 101], [105, 118, 115, 105, 122, 101], 117⟩
def cr10 : CrF := ⟨[77, 97, 120, 97, 117, 116, 104, 115, 105, 122, 101], [109, 97, 120, 97, 117, 116, 104, 115, 105, 122, 101], 117⟩
def cr11 : CrF := ⟨[77, 97, 120, 75, 101, 121, 115, 105, 122, 101], [109, 97, 120, 32, 107, 101, 121, 115, 105, 122, 101], 117⟩
def cr12 : CrF := ⟨[77, 105, 110, 75, 101, 121, 115, 105, 122, 101], [109, 105, 110, 32, 107, 101, 121, 115, 105, 122, 101], 117⟩
def cr13 : CrF := ⟨[77, 111, 100, 117, 108, 101], [109, 111, 100, 117, 108, 101], 115⟩
def cr14 : CrF := ⟨[78, 97, 109, 101], [110, 97, 109, 101], 115⟩
def cr15 : CrF := ⟨[80, 114, 105, 111, 114, 105, 116, 121], [112, 114, 105, 111, 114, 105, 116, 121], 105⟩
def cr16 : CrF := ⟨[82, 101, 102, 99, 110, 116], [114, 101, 102, 99, 110, 116], 105⟩
def cr17 : CrF := ⟨[83, 101, 101, 100, 115, 105, 122, 101], [115, 101, 101, 100, 115, 105, 122, 101], 117⟩
def cr18 : CrF := ⟨[83, 101, 108, 102, 116, 101, 115, 116], [115, 101, 108, 102, 116, 101, 115, 116], 115⟩
def cr19 : CrF := ⟨[84, 121, 112, 101], [116, 121, 112, 101], 115⟩
def cr20 : CrF := ⟨[87, 97, 108, 107, 115, 105, 122, 101], [119, 97, 108, 107, 115, 105, 122, 101], 117⟩
def crTab : List CrF := [cr0, cr1, cr2, cr3, cr4, cr5, cr6, cr7, cr8, cr9, cr10, cr11, cr12, cr13, cr14, cr15, cr16, cr17, cr18, cr19, cr20]

def sName : List UInt8 := [110, 97, 109, 101]
def sAlign : List UInt8 := [97, 108, 105, 103, 110, 109, 97, 115, 107]
def sCtx : List UInt8 := [99, 116, 120, 115, 105, 122, 101]
def sYes : List UInt8 := [121, 101, 115]
def sNo : List UInt8 := [110, 111]

theorem nodup_sub2 {α : Type} [DecidableEq α] : ∀ (l L : List α), l.Nodup → (∀ x ∈ l, x ∈ L) → l.length ≤ L.length
  | [], _, _, _ => by simp
  | x :: l, L, h, hs => by
    rw [List.nodup_cons] at h
    have hx := hs x (by simp)
    have h2 := nodup_sub2 l (L.erase x) h.2 (fun y hy => (List.mem_erase_of_ne (by rintro rfl; exact h.1 hy)).2 (hs y (by simp [hy])))
    rw [List.length_erase_of_mem hx] at h2
    have : 0 < L.length := List.length_pos_of_mem hx
    simp only [List.length_cons]
    omega

def CrF.sv (x : CrF) : SV := .agg [.str x.nm, .str x.lab, .str [x.k]]
def crNm : List SV := crTab.map CrF.sv

theorem crTab_len : crTab.length = 21 := rfl
theorem crNm_len : crNm.length = 21 := rfl
theorem crTab_nodup : (crTab.map CrF.lab).Nodup := by decide
theorem crTab_small : ∀ x ∈ crTab, x.nm.length < 20 ∧ x.lab.length < 20 ∧ x.lab ≠ [] := by decide
theorem crNm_get {j : Nat} {x : CrF} (h : crTab[j]? = some x) : ∀ h : j < crNm.length, crNm[j]'h = .agg [.str x.nm, .str x.lab, .str [x.k]] := by
  intro hl
  have : crNm[j]? = some x.sv := by unfold crNm; rw [List.getElem?_map, h]; rfl
  rw [List.getElem?_eq_getElem hl] at this
  exact Option.some.inj this

theorem addC {a b : List UInt8} (h : a.length + b.length < 4611686018427387904) : binSV .add (.str a) (.str b) = some (.str (a ++ b)) := by simp [binSV, h]

def S5044 (F : List SV → Option AV) : Prop := F [] = some (.sv (.sl crNm))

theorem ev5044 (E : Env) (h : E.code 44 = some c5044) : S5044 (autoF E 44) := by
  refine autoA_sl (n := 1) (r := .own 94 crNm) ?_ rfl
  unfold evPA
  simp only [h]
  simp [c5044, crNm, crTab, CrF.sv, cr0, cr1, cr2, cr3, cr4, cr5, cr6, cr7, cr8, cr9, cr10, cr11, cr12, cr13, cr14, cr15, cr16, cr17, cr18, cr19, cr20]

def S2110 (F : List SV → Option AV) : Prop := ∀ (nm : List UInt8) (b : Bool), F [.str nm, .bool b] = some (.sv (nodeV nm 1 b 0 0 0 [] []))

theorem ev2110 (E : Env) (h : E.code 46 = some c2110) : S2110 (autoF E 46) := by
  intro nm b
  refine autoF_sv (n := 1) ?_ rfl
  unfold evP
  simp only [h]
  simp [c2110, List.replicate, nodeV]

def S1114c (F : List SV → Option AV) : Prop := ∀ nm : List UInt8, F [.str nm] = some (.sv (nodeV nm 0 false 0 0 0 [] []))

theorem ev1114c (E : Env) (h : E.code 48 = some c1114) : S1114c (autoF E 48) := by
  intro nm
  refine autoF_sv (n := 1) ?_ rfl
  unfold evP
  simp only [h]
  simp [c1114, List.replicate, nodeV]

/-! ### A sign's place -/

def whereI (b : Nat) (k : Nat) : List UInt8 → Int
  | [] => -1
  | c :: cs => if c.toNat = b then (k : Int) else whereI b (k + 1) cs

theorem whereI_cases (b : Nat) : ∀ (s : List UInt8) (k : Nat), (whereI b k s = -1 ∧ ∀ c ∈ s, c.toNat ≠ b) ∨ ∃ j, j < s.length ∧ whereI b k s = ((k + j : Nat) : Int) ∧ ∃ c ∈ s, c.toNat = b
  | [], k => .inl ⟨rfl, by simp⟩
  | c :: cs, k => by
    unfold whereI
    by_cases h : c.toNat = b
    · rw [if_pos h]
      exact .inr ⟨0, by simp, by simp, c, by simp, h⟩
    · rw [if_neg h]
      rcases whereI_cases b cs (k + 1) with ⟨h1, h2⟩ | ⟨j, h1, h2, c', h3, h4⟩
      · refine .inl ⟨h1, fun x hx => ?_⟩
        rcases List.mem_cons.1 hx with rfl | hx
        · exact h
        · exact h2 x hx
      · exact .inr ⟨j + 1, by simp; omega, by rw [h2]; congr 1; omega, c', by simp [h3], h4⟩

theorem whereI_neg {b : Nat} {s : List UInt8} : (whereI b 0 s < 0) = (∀ c ∈ s, c.toNat ≠ b) := by
  apply propext
  rcases whereI_cases b s 0 with ⟨h1, h2⟩ | ⟨j, h1, h2, c, h3, h4⟩
  · rw [h1]
    exact ⟨fun _ => h2, fun _ => by omega⟩
  · rw [h2]
    exact ⟨fun h => by omega, fun h => absurd h4 (h c h3)⟩

def S2191 (F : List SV → Option AV) : Prop := ∀ (s : List UInt8) (b : UInt8), s.length < 1000000000000 → F [.str s, .int .u8 (b.toNat : Int)] = some (.sv (.int .i64 (whereI b.toNat 0 s)))

def st2191 (s : List UInt8) (b : UInt8) (i : Nat) : SA := { nt := 18, tm := [(8, .sv (.int .i64 i)), (7, .sv (.int .i64 s.length)), (1, .sv (.int .u8 (b.toNat : Int))), (0, .sv (.str s))], lz := none, bx := [], df := [] }

theorem loop2191 (E : Env) (cf : CallF) (m : Nat) (s : List UInt8) (hs : s.length < 1000000000000) (b : UInt8) :
    ∀ (rest pre : List UInt8) (i k : Nat), s = pre ++ rest → i = pre.length → rest.length < k →
      roundsA (evCA E cf m b2191_0) k (st2191 s b i) = if whereI b.toNat i rest < 0 then some (.exit 0, { nt := 18, tm := [], lz := none, bx := [], df := [] }) else some (.ret, { nt := 18, tm := [(4, .sv (.int .i64 (whereI b.toNat i rest)))], lz := none, bx := [], df := [] }) := by
  intro rest
  induction rest with
  | nil =>
    intro pre i k hsp hi hk
    obtain ⟨k, rfl⟩ : ∃ k', k = k' + 1 := ⟨k - 1, by omega⟩
    have hlt : ¬ (i < s.length) := by rw [hsp, hi]; simp
    rw [if_pos (by simp [whereI])]
    refine roundsA_out ?_ (by simp)
    simp [b2191_0, st2191, hlt]
  | cons c rest ih =>
    intro pre i k hsp hi hk
    obtain ⟨k, rfl⟩ : ∃ k', k = k' + 1 := ⟨k - 1, by omega⟩
    have hlt : i < s.length := by rw [hsp, hi]; simp
    have hc : ∀ h : i < s.length, s[i]'h = c := by subst hi; subst hsp; simp
    have hw : IntKind.i64.wrap ((i : Int) + 1) = ((i + 1 : Nat) : Int) := by rw [IntKind.wrap_i64]; omega
    by_cases h : c.toNat = b.toNat
    · have e1 : whereI b.toNat i (c :: rest) = (i : Int) := by unfold whereI; rw [if_pos h]
      rw [e1, if_neg (by omega)]
      refine roundsA_out ?_ (by simp)
      simp [b2191_0, st2191, hlt, hc, h]
    · have e1 : whereI b.toNat i (c :: rest) = whereI b.toNat (i + 1) rest := by rw [whereI, if_neg h]
      have h2 : ((c.toNat : Int) == (b.toNat : Int)) = false := by rw [Bool.eq_false_iff]; simp; omega
      rw [e1, ← ih (pre ++ [c]) (i + 1) k (by rw [hsp]; simp) (by simp [hi]) (by simp at hk; omega)]
      refine roundsA_step ?_
      simp [b2191_0, st2191, hlt, hc, h, h2, hw]

theorem ev2191 (E : Env) (h : E.code 40 = some c2191) : S2191 (autoF E 40) := by
  intro s b hs
  have hl := loop2191 E (evF E (s.length + 1)) (s.length + 1) s hs b s [] 0 (s.length + 1) rfl rfl (by omega)
  refine autoA_sv (n := s.length + 1) ?_ rfl
  unfold evPA
  simp only [h]
  simp only [st2191, Int.ofNat_zero, Int.natCast_zero] at hl
  rcases whereI_cases b.toNat s 0 with ⟨h1, _⟩ | ⟨j, h1, h2, _⟩
  · rw [h1] at hl ⊢
    rw [if_pos (by omega)] at hl
    simp [c2191, hl]
  · rw [h2] at hl ⊢
    rw [if_neg (by omega)] at hl
    simp [c2191, hl]

/-! ### Is a text in a list? -/

def S5043 (F : List SV → Option AV) : Prop := ∀ (l : List (List UInt8)) (s : List UInt8), l.length < 1000000000000 → F [.sl (strs l), .str s] = some (.sv (.bool (l.any fun p => p == s)))

def st5043 (xs : List SV) (s : List UInt8) (i : Nat) : SA := { nt := 17, tm := [(9, .sv (.int .i64 i)), (8, .sv (.int .i64 xs.length)), (7, .sv (.sl xs)), (1, .sv (.str s))], lz := none, bx := [], df := [] }

theorem loop5043 (E : Env) (cf : CallF) (m : Nat) (xs : List SV) (hs : xs.length < 1000000000000) (s : List UInt8) :
    ∀ (rest : List (List UInt8)) (pre : List SV) (i k : Nat), xs = pre ++ strs rest → i = pre.length → rest.length < k →
      roundsA (evCA E cf m b5043_0) k (st5043 xs s i) = if (rest.any fun p => p == s) = true then some (.ret, { nt := 17, tm := [(4, .sv (.bool true))], lz := none, bx := [], df := [] }) else some (.exit 0, { nt := 17, tm := [], lz := none, bx := [], df := [] }) := by
  intro rest
  induction rest with
  | nil =>
    intro pre i k hsp hi hk
    obtain ⟨k, rfl⟩ : ∃ k', k = k' + 1 := ⟨k - 1, by omega⟩
    have hlt : ¬ (i < xs.length) := by rw [hsp, hi]; simp [strs]
    rw [if_neg (by simp)]
    refine roundsA_out ?_ (by simp)
    simp [b5043_0, st5043, hlt]
  | cons c rest ih =>
    intro pre i k hsp hi hk
    obtain ⟨k, rfl⟩ : ∃ k', k = k' + 1 := ⟨k - 1, by omega⟩
    have hlt : i < xs.length := by rw [hsp, hi]; simp [strs]
    have hc : ∀ h : i < xs.length, xs[i]'h = .str c := by subst hi; subst hsp; simp [strs]
    have hw : IntKind.i64.wrap ((i : Int) + 1) = ((i + 1 : Nat) : Int) := by rw [IntKind.wrap_i64]; omega
    by_cases h : c = s
    · rw [if_pos (by simp [h])]
      refine roundsA_out ?_ (by simp)
      simp [b5043_0, st5043, hlt, hc, h]
    · have h2 : (c == s) = false := by simpa using h
      simp only [List.any_cons, h2, Bool.false_or]
      rw [← ih (pre ++ [.str c]) (i + 1) k (by rw [hsp]; simp [strs]) (by simp [hi]) (by simp at hk; omega)]
      refine roundsA_step ?_
      simp [b5043_0, st5043, hlt, hc, h2, hw]

theorem ev5043 (E : Env) (h : E.code 43 = some c5043) : S5043 (autoF E 43) := by
  intro l s hl
  have hrl : (strs l).length = l.length := strs_length l
  have he := loop5043 E (evF E (l.length + 1)) (l.length + 1) (strs l) (by omega) s l [] 0 (l.length + 1) rfl rfl (by omega)
  refine autoA_sv (n := l.length + 1) ?_ rfl
  unfold evPA
  simp only [h]
  simp only [st5043, Int.ofNat_zero, Int.natCast_zero] at he
  generalize strs l = R at *
  by_cases hv : (l.any fun p => p == s) = true
  · rw [if_pos hv] at he; rw [hv]; simp [c5043, he]
  · rw [if_neg hv] at he
    have hv2 : (l.any fun p => p == s) = false := Bool.eq_false_iff.2 hv
    rw [hv2]; simp [c5043, he]

/-! ### What is fine -/

def crVal (k : UInt8) (v : List UInt8) : Bool :=
  if k = 98 then v == sYes || v == sNo
  else if k = 115 then isWord v && decide (whereI 58 0 v < 0)
  else match decV v with
    | some n => decide (n < 9223372036854775808)
    | none => false

def crBad (s : List UInt8) : Bool := s == sName || (s == sAlign || s == sCtx)

def crFind (s : List UInt8) : List CrF → Option CrF
  | [] => none
  | x :: l => if x.lab = s then some x else crFind s l

def crFine (f v : List UInt8) : Bool := if crBad f = true then false else match crFind f crTab with
  | some x => crVal x.k v
  | none => false

def crBox (x : CrF) : Box := .live [.sv (.str x.nm), .sv (.str x.lab), .sv (.str [x.k])]

def st5042 (NM : List SV) (f v : List UInt8) (i : Nat) (bx : List Box) : SA := { nt := 67, tm := [(11, .sv (.int .i64 i)), (10, .sv (.int .i64 21)), (9, .sv (.sl NM)), (1, .sv (.str v)), (0, .sv (.str f))], lz := none, bx := bx, df := [] }

theorem neqS (a b : List UInt8) : binSV .neq (.str a) (.str b) = some (.bool !(a == b)) := rfl
theorem eqlS (a b : List UInt8) : binSV .eql (.str a) (.str b) = some (.bool (a == b)) := rfl

set_option maxRecDepth 100000 in
set_option maxHeartbeats 4000000 in
theorem skip5042 (E : Env) (cf : CallF) (m : Nat) (NM : List SV) (hN : NM.length = 21) (f v : List UInt8) (i : Nat) (hi : i < 21) (x : CrF) (hc : ∀ h : i < NM.length, NM[i]'h = .agg [.str x.nm, .str x.lab, .str [x.k]]) (hs : x.lab ≠ f ∨ crBad f = true) (bx : List Box) :
    evCA E cf m b5042_0 (st5042 NM f v i bx) = some (.normal, st5042 NM f v (i + 1) (bx ++ [crBox x])) := by
  have hw : binSV .add (.int .i64 (i : Int)) (.int .i64 1) = some (.int .i64 ((i + 1 : Nat) : Int)) := by
    simp only [binSV, if_true]
    rw [show IntKind.i64.wrap ((i : Int) + 1) = ((i + 1 : Nat) : Int) from by rw [IntKind.wrap_i64]; omega]
  have hlss : binSV .lss (.int .i64 (i : Int)) (.int .i64 21) = some (.bool true) := by
    simp only [binSV, if_true, show (i : Int) < 21 from by omega, decide_true]
  have l1 : i < NM.length := by omega
  have e1 := neqS x.lab f
  have e2 := eqlS f sName
  have e3 := eqlS f sAlign
  have e4 := eqlS f sCtx
  simp only [sName, sAlign, sCtx] at e2 e3 e4
  simp only [crBad, sName, sAlign, sCtx] at hs
  unfold st5042 crBox
  obtain ⟨xn, xl, xk⟩ := x
  simp only at *
  by_cases h : (xl == f) = true
  · have hb : (f == [110, 97, 109, 101] || (f == [97, 108, 105, 103, 110, 109, 97, 115, 107] || f == [99, 116, 120, 115, 105, 122, 101])) = true := by
      rcases hs with hs | hs
      · exact absurd (by simpa using h) hs
      · exact hs
    rw [h] at e1
    cases a1 : (f == [110, 97, 109, 101]) with
    | true =>
      rw [a1] at e2
      simp [-binSV, b5042_0, hlss, l1, hc, e1, e2, hw]
    | false =>
      rw [a1] at e2 hb
      cases a2 : (f == [97, 108, 105, 103, 110, 109, 97, 115, 107]) with
      | true =>
        rw [a2] at e3
        simp [-binSV, b5042_0, hlss, l1, hc, e1, e2, e3, hw]
      | false =>
        rw [a2] at e3 hb
        simp only [Bool.false_or] at hb
        rw [hb] at e4
        simp [-binSV, b5042_0, hlss, l1, hc, e1, e2, e3, e4, hw]
  · have h' : (xl == f) = false := by simpa using h
    rw [h'] at e1
    simp [-binSV, b5042_0, hlss, l1, hc, e1, hw]

theorem lss63 (n : Nat) : binSV .lss (.int .u64 (n : Int)) (.int .u64 9223372036854775808) = some (.bool (decide (n < 9223372036854775808))) := by
  have e : binSV .lss (.int .u64 (n : Int)) (.int .u64 9223372036854775808) = some (.bool (decide ((n : Int) < 9223372036854775808))) := by
    simp only [binSV, if_true]
  rw [e]
  by_cases hlt : n < 9223372036854775808
  · rw [decide_eq_true hlt, decide_eq_true (show (n : Int) < 9223372036854775808 from by omega)]
  · rw [decide_eq_false hlt, decide_eq_false (show ¬ (n : Int) < 9223372036854775808 from by omega)]

theorem wordW (v : List UInt8) (hv : v.length < 1000000000000) : F54 [.str v] = some (.sv (.bool (isWord v))) := by
  rw [F54_eq v (by omega)]
  rfl

set_option maxRecDepth 100000 in
set_option maxHeartbeats 8000000 in
theorem hitB5042 (E : Env) (cf : CallF) (m : Nat) (NM : List SV) (f v : List UInt8) (i : Nat) (hlss : binSV .lss (.int .i64 (i : Int)) (.int .i64 21) = some (.bool true)) (l1 : i < NM.length) (xn xl : List UInt8) (xk : UInt8) (hc : ∀ h : i < NM.length, NM[i]'h = .agg [.str xn, .str xl, .str [xk]])
    (e1 : binSV .neq (.str xl) (.str f) = some (.bool false)) (e2 : binSV .eql (.str f) (.str [110, 97, 109, 101]) = some (.bool false)) (e3 : binSV .eql (.str f) (.str [97, 108, 105, 103, 110, 109, 97, 115, 107]) = some (.bool false)) (e4 : binSV .eql (.str f) (.str [99, 116, 120, 115, 105, 122, 101]) = some (.bool false))
    (k1 : binSV .eql (.str [xk]) (.str [98]) = some (.bool true)) (a b : Bool) (y1 : binSV .eql (.str v) (.str [121, 101, 115]) = some (.bool a)) (y2 : binSV .eql (.str v) (.str [110, 111]) = some (.bool b)) (bx : List Box) :
    ∃ bx', evCA E cf m b5042_0 (st5042 NM f v i bx) = some (.ret, { nt := 67, tm := [(4, .sv (.bool (a || b)))], lz := none, bx := bx', df := [] }) := by
  refine ⟨bx ++ [.live [.sv (.str xn), .sv (.str xl), .sv (.str [xk])]], ?_⟩
  unfold st5042
  cases a with
  | true => simp [-binSV, b5042_0, hlss, l1, hc, e1, e2, e3, e4, k1, y1]
  | false => simp [-binSV, b5042_0, hlss, l1, hc, e1, e2, e3, e4, k1, y1, y2]

set_option maxRecDepth 100000 in
set_option maxHeartbeats 8000000 in
theorem hitS5042 (E : Env) (cf : CallF) (m : Nat) (h54 : E.pure 39 = some F54) (W : List SV → Option AV) (pW : E.pure 40 = some W) (NM : List SV) (f v : List UInt8) (i : Nat) (hlss : binSV .lss (.int .i64 (i : Int)) (.int .i64 21) = some (.bool true)) (l1 : i < NM.length) (xn xl : List UInt8) (xk : UInt8) (hc : ∀ h : i < NM.length, NM[i]'h = .agg [.str xn, .str xl, .str [xk]])
    (e1 : binSV .neq (.str xl) (.str f) = some (.bool false)) (e2 : binSV .eql (.str f) (.str [110, 97, 109, 101]) = some (.bool false)) (e3 : binSV .eql (.str f) (.str [97, 108, 105, 103, 110, 109, 97, 115, 107]) = some (.bool false)) (e4 : binSV .eql (.str f) (.str [99, 116, 120, 115, 105, 122, 101]) = some (.bool false))
    (k1 : binSV .eql (.str [xk]) (.str [98]) = some (.bool false)) (k2 : binSV .eql (.str [xk]) (.str [115]) = some (.bool true)) (a b : Bool) (wv : Int) (eW : F54 [.str v] = some (.sv (.bool a))) (eI : W [.str v, .int .u8 58] = some (.sv (.int .i64 wv))) (w0 : binSV .lss (.int .i64 wv) (.int .i64 0) = some (.bool b)) (bx : List Box) :
    ∃ bx', evCA E cf m b5042_0 (st5042 NM f v i bx) = some (.ret, { nt := 67, tm := [(4, .sv (.bool (a && b)))], lz := none, bx := bx', df := [] }) := by
  refine ⟨bx ++ [.live [.sv (.str xn), .sv (.str xl), .sv (.str [xk])]], ?_⟩
  unfold st5042
  cases a with
  | true => simp [-binSV, b5042_0, hlss, l1, hc, e1, e2, e3, e4, k1, k2, h54, eW, pW, eI, w0]
  | false => simp [-binSV, b5042_0, hlss, l1, hc, e1, e2, e3, e4, k1, k2, h54, eW]

set_option maxRecDepth 100000 in
set_option maxHeartbeats 8000000 in
theorem hitN5042 (E : Env) (cf : CallF) (m : Nat) (h81 : E.pure 45 = some F81) (h45 : E.pure 72 = some F45) (NM : List SV) (f v : List UInt8) (i : Nat) (hlss : binSV .lss (.int .i64 (i : Int)) (.int .i64 21) = some (.bool true)) (l1 : i < NM.length) (xn xl : List UInt8) (xk : UInt8) (hc : ∀ h : i < NM.length, NM[i]'h = .agg [.str xn, .str xl, .str [xk]])
    (e1 : binSV .neq (.str xl) (.str f) = some (.bool false)) (e2 : binSV .eql (.str f) (.str [110, 97, 109, 101]) = some (.bool false)) (e3 : binSV .eql (.str f) (.str [97, 108, 105, 103, 110, 109, 97, 115, 107]) = some (.bool false)) (e4 : binSV .eql (.str f) (.str [99, 116, 120, 115, 105, 122, 101]) = some (.bool false))
    (k1 : binSV .eql (.str [xk]) (.str [98]) = some (.bool false)) (k2 : binSV .eql (.str [xk]) (.str [115]) = some (.bool false)) (a b c : Bool) (z : Int) (D : List UInt8) (e81 : F81 [.str v] = some (.sv (.tup [.int .u64 z, .bool a]))) (t2 : a = true → binSV .lss (.int .u64 z) (.int .u64 9223372036854775808) = some (.bool b)) (e45 : a = true → F45 [.int .u64 z] = some (.sv (.str D))) (t1 : binSV .eql (.str D) (.str v) = some (.bool c)) (bx : List Box) :
    ∃ bx', evCA E cf m b5042_0 (st5042 NM f v i bx) = some (.ret, { nt := 67, tm := [(4, .sv (.bool (a && (b && c))))], lz := none, bx := bx', df := [] }) := by
  refine ⟨bx ++ [.live [.sv (.str xn), .sv (.str xl), .sv (.str [xk])]], ?_⟩
  unfold st5042
  cases a with
  | false => simp [-binSV, b5042_0, hlss, l1, hc, e1, e2, e3, e4, k1, k2, h81, e81]
  | true =>
    have t2 := t2 rfl
    have e45 := e45 rfl
    cases b with
    | true => simp [-binSV, b5042_0, hlss, l1, hc, e1, e2, e3, e4, k1, k2, h81, e81, t2, h45, e45, t1]
    | false => simp [-binSV, b5042_0, hlss, l1, hc, e1, e2, e3, e4, k1, k2, h81, e81, t2]

theorem hit5042 (E : Env) (cf : CallF) (m : Nat) (h54 : E.pure 39 = some F54) (hW : Has E 40 S2191) (h81 : E.pure 45 = some F81) (h45 : E.pure 72 = some F45) (NM : List SV) (hN : NM.length = 21) (f v : List UInt8) (hv : v.length < 1000000000000) (i : Nat) (hi : i < 21) (x : CrF) (hc : ∀ h : i < NM.length, NM[i]'h = .agg [.str x.nm, .str x.lab, .str [x.k]]) (hs : x.lab = f) (hb : crBad f = false) (bx : List Box) :
    ∃ bx', evCA E cf m b5042_0 (st5042 NM f v i bx) = some (.ret, { nt := 67, tm := [(4, .sv (.bool (crVal x.k v)))], lz := none, bx := bx', df := [] }) := by
  obtain ⟨W, pW, sW⟩ := hW
  have e2191 := sW v 58 hv
  have eW := wordW v hv
  have e81 := F81_eq v (by omega)
  rw [show (((58 : UInt8).toNat : Nat) : Int) = 58 from rfl, show (58 : UInt8).toNat = 58 from rfl] at e2191
  have hlss : binSV .lss (.int .i64 (i : Int)) (.int .i64 21) = some (.bool true) := by
    simp only [binSV, if_true, show (i : Int) < 21 from by omega, decide_true]
  have l1 : i < NM.length := by omega
  have e1 := neqS x.lab f
  have e2 := eqlS f sName
  have e3 := eqlS f sAlign
  have e4 := eqlS f sCtx
  have k1 := eqlS [x.k] [98]
  have k2 := eqlS [x.k] [115]
  have hw0 : binSV .lss (.int .i64 (whereI 58 0 v)) (.int .i64 0) = some (.bool (decide (whereI 58 0 v < 0))) := by
    simp only [binSV, if_true]
  unfold crBad at hb
  rw [Bool.or_eq_false_iff, Bool.or_eq_false_iff] at hb
  obtain ⟨b1, b2, b3⟩ := hb
  have h1 : (x.lab == f) = true := by simpa using hs
  rw [h1] at e1
  rw [b1] at e2
  rw [b2] at e3
  rw [b3] at e4
  have hkk : ∀ c : UInt8, ([x.k] == [c]) = decide (x.k = c) := fun c => by
    by_cases hh : x.k = c
    · rw [hh, decide_eq_true rfl]; simp
    · rw [decide_eq_false hh]; simpa using hh
  rw [hkk] at k1 k2
  obtain ⟨xn, xl, xk⟩ := x
  simp only at *
  unfold crVal
  by_cases hb : xk = 98
  · rw [decide_eq_true hb] at k1
    rw [if_pos hb]
    exact hitB5042 E cf m NM f v i hlss l1 xn xl xk hc e1 e2 e3 e4 k1 _ _ (eqlS v sYes) (eqlS v sNo) bx
  · rw [decide_eq_false hb] at k1
    rw [if_neg hb]
    by_cases hss : xk = 115
    · rw [decide_eq_true hss] at k2
      rw [if_pos hss]
      exact hitS5042 E cf m h54 W pW NM f v i hlss l1 xn xl xk hc e1 e2 e3 e4 k1 k2 _ _ _ eW e2191 hw0 bx
    · rw [decide_eq_false hss] at k2
      rw [if_neg hss]
      unfold decV
      cases hn : numV 10 0 v with
      | none =>
        rw [hn] at e81
        simp only at e81 ⊢
        exact hitN5042 E cf m h81 h45 NM f v i hlss l1 xn xl xk hc e1 e2 e3 e4 k1 k2 false false _ 0 [] e81 (fun h => by cases h) (fun h => by cases h) (eqlS [] v) bx
      | some n =>
        rw [hn] at e81
        simp only at e81 ⊢
        have hn64 : n < 18446744073709551616 := numV_lt (by decide) _ _ _ (by decide) hn
        have hg := hitN5042 E cf m h81 h45 NM f v i hlss l1 xn xl xk hc e1 e2 e3 e4 k1 k2 _ _ _ (n : Int) (decS n) e81 (fun _ => lss63 n) (fun _ => F45_eq n hn64) (eqlS (decS n) v) bx
        have key : (match (if v ≠ [] ∧ decS n = v then some n else none) with | some n => decide (n < 9223372036854775808) | none => false) = (!(v == []) && (decide (n < 9223372036854775808) && (decS n == v))) := by
          by_cases hv0 : v = []
          · rw [if_neg (by simp [hv0])]
            simp [hv0]
          · have : (v == []) = false := by simpa using hv0
            rw [this]
            by_cases hd : decS n = v
            · rw [if_pos ⟨hv0, hd⟩]
              have : (decS n == v) = true := by simpa using hd
              rw [this]
              simp only [Bool.not_false, Bool.true_and, Bool.and_true]
            · rw [if_neg (by simp [hd])]
              have : (decS n == v) = false := by simpa using hd
              rw [this]
              simp
        rw [key]
        exact hg

theorem loop5042 (E : Env) (cf : CallF) (m : Nat) (h54 : E.pure 39 = some F54) (hW : Has E 40 S2191) (h81 : E.pure 45 = some F81) (h45 : E.pure 72 = some F45) (f v : List UInt8) (hv : v.length < 1000000000000) :
    ∀ (rest pre : List CrF) (i k : Nat) (bx : List Box), crTab = pre ++ rest → i = pre.length → rest.length < k →
      ∃ bx', roundsA (evCA E cf m b5042_0) k (st5042 crNm f v i bx) = match (if crBad f = true then none else crFind f rest) with
        | some x => some (.ret, { nt := 67, tm := [(4, .sv (.bool (crVal x.k v)))], lz := none, bx := bx', df := [] })
        | none => some (.exit 0, { nt := 67, tm := [], lz := none, bx := bx', df := [] }) := by
  intro rest
  induction rest with
  | nil =>
    intro pre i k bx hsp hi hk
    obtain ⟨k, rfl⟩ : ∃ k', k = k' + 1 := ⟨k - 1, by omega⟩
    have h16 : i = 21 := by rw [hi]; have := congrArg List.length hsp; simpa [crTab_len] using this.symm
    refine ⟨bx, ?_⟩
    rw [show (if crBad f = true then none else crFind f []) = none from by split <;> rfl]
    refine roundsA_out ?_ (by simp)
    subst h16
    simp [b5042_0, st5042]
  | cons x rest ih =>
    intro pre i k bx hsp hi hk
    obtain ⟨k, rfl⟩ : ∃ k', k = k' + 1 := ⟨k - 1, by omega⟩
    have hx : crTab[i]? = some x := by rw [hsp, hi]; simp
    have hl : i < 21 := (List.getElem?_eq_some_iff.1 hx).1
    by_cases hb : crBad f = true
    · obtain ⟨bx', he⟩ := ih (pre ++ [x]) (i + 1) k (bx ++ [crBox x]) (by rw [hsp]; simp) (by simp [hi]) (by simp at hk; omega)
      refine ⟨bx', ?_⟩
      rw [roundsA_step (skip5042 E cf m crNm crNm_len f v i hl x (crNm_get hx) (.inr hb) bx), he]
      simp [hb]
    · by_cases hxf : x.lab = f
      · obtain ⟨bx', he⟩ := hit5042 E cf m h54 hW h81 h45 crNm crNm_len f v hv i hl x (crNm_get hx) hxf (by simpa using hb) bx
        refine ⟨bx', ?_⟩
        rw [roundsA_out he (by simp), if_neg hb, crFind, if_pos hxf]
      · obtain ⟨bx', he⟩ := ih (pre ++ [x]) (i + 1) k (bx ++ [crBox x]) (by rw [hsp]; simp) (by simp [hi]) (by simp at hk; omega)
        refine ⟨bx', ?_⟩
        rw [roundsA_step (skip5042 E cf m crNm crNm_len f v i hl x (crNm_get hx) (.inl hxf) bx), he, crFind, if_neg hxf]

def S5042 (F : List SV → Option AV) : Prop := ∀ f v : List UInt8, v.length < 1000000000000 → F [.str f, .str v] = some (.sv (.bool (crFine f v)))

theorem ev5042 (E : Env) (h : E.code 42 = some c5042) (hN : Has E 44 S5044) (h54 : E.pure 39 = some F54) (hW : Has E 40 S2191) (h81 : E.pure 45 = some F81) (h45 : E.pure 72 = some F45) : S5042 (autoF E 42) := by
  obtain ⟨N, pN, sN⟩ := hN
  unfold S5044 at sN
  intro f v hv
  obtain ⟨bx', he⟩ := loop5042 E (evF E 100) 100 h54 hW h81 h45 f v hv crTab [] 0 100 [] rfl rfl (by rw [crTab_len]; omega)
  refine autoA_sv (n := 100) ?_ rfl
  unfold evPA
  simp only [h]
  have hNL := crNm_len
  unfold crFine
  simp only [st5042, Int.ofNat_zero, Int.natCast_zero] at he
  generalize crNm = NM at *
  generalize crFind f crTab = o at *
  by_cases hb : crBad f = true
  · rw [if_pos hb] at he ⊢
    simp only at he
    simp [c5042, pN, sN, hNL, he]
  · rw [if_neg hb] at he ⊢
    cases o with
    | none => simp only at he; simp [c5042, pN, sN, hNL, he]
    | some x => simp only at he; simp [c5042, pN, sN, hNL, he]

end Go.Ev

set_option linter.unusedSimpArgs false
set_option linter.unusedVariables false
namespace Go.Ev
open Go.Proofs

def crPr : List (List UInt8) → List (List UInt8 × List UInt8)
  | f :: v :: l => (f, v) :: crPr l
  | _ => []

/-- Pairs of a field and its text, none twice. -/
def crOkS (pre : List (List UInt8)) : List (List UInt8) → Bool
  | [] => true
  | [_] => false
  | f :: v :: l => crFine f v && (!(pre.any fun p => p == f) && crOkS (pre ++ [f, v]) l)

def crOk1 (r : RowD) : Bool := isWord r.name && (decide (whereI 58 0 r.name < 0) && (decide (r.N.length = 0) && (decide (r.S.length % 2 = 0) && crOkS [] r.S)))
def crOk (rs : List RowD) : Bool := rs.all crOk1

def crLine (f v : List UInt8) : List UInt8 := leftS f 13 ++ 58 :: 32 :: v
def crPairs (S : List (List UInt8)) : List UInt8 := ((crPr S).map fun p => crLine p.1 p.2 ++ [10]).flatten
def crRowT (r : RowD) : List UInt8 := crLine sName r.name ++ 10 :: (crPairs r.S ++ [10])
def crText (rs : List RowD) : List UInt8 := (rs.map crRowT).flatten

/-! ### Print -/

def stI5017 (xs : List SV) (out : List UInt8) (i b : Nat) (W : List Box) (j : Nat) : SA := { nt := 98, tm := [(10, .sv (.int .i64 i)), (9, .sv (.int .i64 xs.length)), (8, .sv (.sl xs)), (7, .sv (.int .i64 j)), (6, .ptr b 0), (4, .sv (.str out))], lz := none, bx := W, df := [] }
def st5017 (xs : List SV) (out : List UInt8) (i : Nat) (bx : List Box) : SA := { nt := 98, tm := [(10, .sv (.int .i64 i)), (9, .sv (.int .i64 xs.length)), (8, .sv (.sl xs)), (4, .sv (.str out))], lz := none, bx := bx, df := [] }
def bad5017 (bx : List Box) : SA := { nt := 98, tm := [(3, .sv (.int .i64 2)), (2, .sv (.str []))], lz := none, bx := bx, df := [] }

theorem addI {a b c : Int} (h : IntKind.i64.wrap (a + b) = c) : binSV .add (.int .i64 a) (.int .i64 b) = some (.int .i64 c) := by
  simp only [binSV, if_true, h]

set_option maxRecDepth 100000 in
set_option maxHeartbeats 8000000 in
theorem stepI5017 (E : Env) (cf : CallF) (m : Nat) (G A : List SV → Option AV) (pG : E.pure 42 = some G) (pA : E.pure 43 = some A) (h44 : E.pure 41 = some F44) (xs : List SV) (out : List UInt8) (i b : Nat) (W : List Box) (j : Nat) (nm : List UInt8) (U T TP : List SV) (hW : W[b]? = some (.live [.sv (.str nm), .sv (.sl U), .sv (.sl T)])) (hT : TP = T.take j) (f v L : List UInt8) (hj : j + 1 < T.length) (hjl : T.length < 1000000000000) (hu : (∀ x : SV, x ∈ T → x.cells.length = 1) = True)
    (h1 : ∀ h : j < T.length, T[j]'h = .str f) (h2 : ∀ h : j + 1 < T.length, T[j + 1]'h = .str v) (p q : Bool) (eG : G [.str f, .str v] = some (.sv (.bool p))) (eA : p = true → A [.sl TP, .str f] = some (.sv (.bool q))) (e44 : p = true → q = false → F44 [.str f, .int .i64 13] = some (.sv (.str L)))
    (y1 : p = true → q = false → binSV .add (.str L) (.str [58, 32]) = some (.str (L ++ [58, 32]))) (y2 : p = true → q = false → binSV .add (.str (L ++ [58, 32])) (.str v) = some (.str (L ++ [58, 32] ++ v))) (y3 : p = true → q = false → binSV .add (.str (L ++ [58, 32] ++ v)) (.str [10]) = some (.str (L ++ [58, 32] ++ v ++ [10]))) (y4 : p = true → q = false → binSV .add (.str out) (.str (L ++ [58, 32] ++ v ++ [10])) = some (.str (out ++ (L ++ [58, 32] ++ v ++ [10])))) :
    evCA E cf m b5017_0 (stI5017 xs out i b W j) = if (p && !q) = true then some (.normal, stI5017 xs (out ++ (L ++ [58, 32] ++ v ++ [10])) i b W (j + 2)) else some (.ret, bad5017 W) := by
  have w1 : binSV .add (.int .i64 (j : Int)) (.int .i64 1) = some (.int .i64 ((j : Int) + 1)) := addI (by rw [IntKind.wrap_i64]; omega)
  have w2 : binSV .add (.int .i64 (j : Int)) (.int .i64 2) = some (.int .i64 ((j : Int) + 2)) := addI (by rw [IntKind.wrap_i64]; omega)
  have hlss : binSV .lss (.int .i64 (j : Int)) (.int .i64 (T.length : Int)) = some (.bool true) := by
    simp only [binSV, if_true, show (j : Int) < (T.length : Int) from by omega, decide_true]
  have c2 : ((j : Int) + 1) < (T.length : Int) := by omega
  have c3 : j < T.length := by omega
  have c4 : (0 : Int) ≤ (j : Int) + 1 := by omega
  have c6 : j ≤ T.length := by omega
  have c7 : ((j : Int) + 1).toNat = j + 1 := by omega
  subst hT
  simp only [SV.cells] at hu
  unfold stI5017 bad5017
  cases p with
  | false =>
    rw [if_neg (by simp)]
    simp [-binSV, b5017_0, hW, hlss, c2, c3, c4, c6, c7, h1, h2, hj, pG, eG, w1]
  | true =>
    have eA := eA rfl
    generalize hz : out ++ (L ++ [58, 32] ++ v ++ [10]) = Z4 at *
    generalize L ++ [58, 32] ++ v ++ [10] = Z3 at *
    generalize L ++ [58, 32] ++ v = Z2 at *
    generalize L ++ [58, 32] = Z1 at *
    clear hz
    cases q with
    | false =>
      have e44 := e44 rfl rfl
      have y1 := y1 rfl rfl
      have y2 := y2 rfl rfl
      have y3 := y3 rfl rfl
      have y4 := y4 rfl rfl
      rw [if_pos (by simp)]
      simp [-binSV, b5017_0, hW, hlss, c2, c3, c4, c6, c7, h1, h2, hj, hu, pG, eG, pA, eA, h44, e44, w1, w2, y1, y2, y3, y4]
    | true =>
      rw [if_neg (by simp)]
      simp [-binSV, b5017_0, hW, hlss, c2, c3, c4, c6, c7, h1, h2, hj, hu, pG, eG, pA, eA, w1]

/-- How long the text of a row may be. -/
def crB : Nat := 2147483748

theorem crFind_mem : ∀ {l : List CrF} {s : List UInt8} {x : CrF}, crFind s l = some x → x ∈ l ∧ x.lab = s
  | [], _, _, h => by cases h
  | y :: l, s, x, h => by
    unfold crFind at h
    split at h
    · rename_i e
      simp only [Option.some.injEq] at h
      subst h
      exact ⟨by simp, e⟩
    · have := crFind_mem h
      exact ⟨List.mem_cons_of_mem _ this.1, this.2⟩

theorem crFine_find {f v : List UInt8} (h : crFine f v = true) : crBad f = false ∧ ∃ x ∈ crTab, x.lab = f ∧ crFind f crTab = some x ∧ crVal x.k v = true := by
  unfold crFine at h
  split at h
  · cases h
  · rename_i hb
    split at h
    · rename_i x hx
      have := crFind_mem hx
      exact ⟨by simpa using hb, x, this.1, this.2, hx, h⟩
    · cases h

def crGood : List (List UInt8) := (crTab.map CrF.lab).filter fun s => !(crBad s)
theorem crGood_len : crGood.length = 18 := by decide

theorem crFine_good {f v : List UInt8} (h : crFine f v = true) : f ∈ crGood ∧ f.length < 20 := by
  obtain ⟨h1, x, h2, h3, _⟩ := crFine_find h
  refine ⟨List.mem_filter.2 ⟨List.mem_map.2 ⟨x, h2, h3⟩, by simp [h1]⟩, ?_⟩
  rw [← h3]
  exact (crTab_small x h2).2.1

theorem any_strs (l : List (List UInt8)) (s : List UInt8) (h : (l.any fun p => p == s) = false) : s ∉ l := by
  intro hm
  rw [Bool.eq_false_iff] at h
  exact h (List.any_eq_true.2 ⟨s, hm, by simp⟩)

theorem crLine_out (L v : List UInt8) (f : List UInt8) (hL : L = leftS f 13) : L ++ [58, 32] ++ v ++ [10] = crLine f v ++ [10] := by
  subst hL
  unfold crLine
  simp

theorem loopI5017 (E : Env) (cf : CallF) (m : Nat) (hG : Has E 42 S5042) (hA : Has E 43 S5043) (h44 : E.pure 41 = some F44) (xs : List SV) (i b : Nat) (W : List Box) (nm : List UInt8) (S : List (List UInt8)) (U : List SV) (hW : W[b]? = some (.live [.sv (.str nm), .sv (.sl U), .sv (.sl (strs S))])) (hSl : S.length < 2147483648) (hS : ∀ s ∈ S, s.length < 2147483648) (N0 : Nat) (hN0 : N0 + 18 * crB < 4611686018427387904) :
    ∀ (k : Nat) (rest pre : List (List UInt8)) (fs : List (List UInt8)) (out : List UInt8), S = pre ++ rest → rest.length % 2 = 0 → fs.Nodup → (∀ x ∈ fs, x ∈ crGood ∧ x ∈ pre) → out.length ≤ N0 + fs.length * crB → rest.length < k →
      roundsA (evCA E cf m b5017_0) k (stI5017 xs out i b W pre.length) = if crOkS pre rest = true then some (.exit 2, { nt := 98, tm := [(10, .sv (.int .i64 i)), (9, .sv (.int .i64 xs.length)), (8, .sv (.sl xs)), (4, .sv (.str (out ++ crPairs rest)))], lz := none, bx := W, df := [] }) else some (.ret, bad5017 W) := by
  obtain ⟨G, pG, sG⟩ := hG
  obtain ⟨A, pA, sA⟩ := hA
  have hTl : (strs S).length = S.length := strs_length S
  have hu : (∀ x : SV, x ∈ strs S → x.cells.length = 1) = True := eq_true (fun x hx => by
    obtain ⟨y, _, rfl⟩ := List.mem_map.1 hx
    rfl)
  intro k
  induction k with
  | zero => intro rest pre fs out _ _ _ _ _ hk; omega
  | succ k ih =>
    intro rest pre fs out hsp hev hnd hfs ho hk
    match rest with
    | [] =>
      have hlt : ¬ (pre.length < (strs S).length) := by rw [hTl, hsp]; simp
      rw [show crOkS pre [] = true from rfl, if_pos rfl]
      refine roundsA_out ?_ (by simp)
      generalize strs S = T at *
      simp [b5017_0, stI5017, hW, hlt, crPairs, crPr]
    | [x] => simp at hev
    | f :: v :: l =>
      have c1 : pre.length + 1 < (strs S).length := by rw [hTl, hsp]; simp
      have g1 : ∀ h : pre.length < (strs S).length, (strs S)[pre.length]'h = .str f := by subst hsp; simp [strs]
      have g2 : ∀ h : pre.length + 1 < (strs S).length, (strs S)[pre.length + 1]'h = .str v := by subst hsp; simp [strs]
      have hfl : f.length < 2147483648 := hS f (by rw [hsp]; simp)
      have hvl : v.length < 2147483648 := hS v (by rw [hsp]; simp)
      have hpl : pre.length < 1000000000000 := by rw [hsp] at hSl; simp at hSl; omega
      have htk : strs pre = (strs S).take pre.length := by subst hsp; simp [strs]
      have eG := sG f v (by omega)
      have hfsl : fs.length ≤ 18 := by rw [← crGood_len]; exact nodup_sub2 fs crGood hnd (fun x hx => (hfs x hx).1)
      have e44 := F44_eq f 13 (by decide) (by omega)
      rw [show ((13 : Nat) : Int) = 13 from rfl] at e44
      have hLl := leftS_len f 13
      have hB : crB = 2147483748 := rfl
      have hnq : (pre.any fun p => p == f) = false → crFine f v = true → (f :: fs).Nodup ∧ (∀ x ∈ f :: fs, x ∈ crGood ∧ x ∈ pre ++ [f, v]) ∧ (f :: fs).length ≤ 18 := by
        intro hq hp
        have hf := any_strs pre f hq
        have hn : (f :: fs).Nodup := List.nodup_cons.2 ⟨fun hm => hf (hfs f hm).2, hnd⟩
        have hg : ∀ x ∈ f :: fs, x ∈ crGood ∧ x ∈ pre ++ [f, v] := fun x hx => by
          rcases List.mem_cons.1 hx with rfl | hx
          · exact ⟨(crFine_good hp).1, by simp⟩
          · exact ⟨(hfs x hx).1, List.mem_append_left _ (hfs x hx).2⟩
        exact ⟨hn, hg, by rw [← crGood_len]; exact nodup_sub2 _ crGood hn (fun x hx => (hg x hx).1)⟩
      have hlen : (pre.any fun p => p == f) = false → crFine f v = true → fs.length * crB + crB ≤ 18 * crB ∧ (leftS f 13).length ≤ 33 := by
        intro hq hp
        have h3 := (hnq hq hp).2.2
        simp only [List.length_cons] at h3
        have := Nat.mul_le_mul_right crB h3
        have h4 := (crFine_good hp).2
        rw [Nat.add_mul, Nat.one_mul] at this
        exact ⟨this, by omega⟩
      have hst := stepI5017 E cf m G A pG pA h44 xs out i b W pre.length nm U (strs S) (strs pre) hW htk f v (leftS f 13) c1 (by omega) hu g1 g2 _ _ eG (fun _ => sA pre f hpl) (fun _ _ => e44)
        (fun hp hq => by have := hlen hq hp; exact addC (by simp; omega)) (fun hp hq => by have := hlen hq hp; exact addC (by simp only [List.length_append, List.length_cons, List.length_nil]; omega))
        (fun hp hq => by have := hlen hq hp; exact addC (by simp only [List.length_append, List.length_cons, List.length_nil]; omega)) (fun hp hq => by have := hlen hq hp; exact addC (by simp only [List.length_append, List.length_cons, List.length_nil]; omega))
      rw [crLine_out (leftS f 13) v f rfl] at hst
      cases hp : crFine f v with
      | false =>
        rw [hp] at hst
        rw [if_neg (by simp)] at hst
        rw [if_neg (by unfold crOkS; simp [hp])]
        exact roundsA_out hst (by simp)
      | true =>
        cases hq : (pre.any fun p => p == f) with
        | true =>
          rw [hp, hq] at hst
          rw [if_neg (by simp)] at hst
          rw [if_neg (by unfold crOkS; simp only [hq]; simp)]
          exact roundsA_out hst (by simp)
        | false =>
          rw [hp, hq] at hst
          rw [if_pos (by simp)] at hst
          obtain ⟨n1, n2, n3⟩ := hnq hq hp
          obtain ⟨m1, m2⟩ := hlen hq hp
          have hih := ih l (pre ++ [f, v]) (f :: fs) (out ++ (crLine f v ++ [10])) (by rw [hsp]; simp) (by simp only [List.length_cons] at hev; omega) n1 n2 (by
            have hcl : (crLine f v ++ [10]).length ≤ crB := by
              unfold crLine
              simp only [List.length_append, List.length_cons, List.length_nil]
              omega
            rw [List.length_append, List.length_cons, Nat.add_mul, Nat.one_mul]
            omega) (by simp only [List.length_cons] at hk; omega)
          rw [show (pre ++ [f, v]).length = pre.length + 2 from by simp] at hih
          rw [roundsA_step hst, hih]
          have e1 : crOkS pre (f :: v :: l) = crOkS (pre ++ [f, v]) l := by
            rw [crOkS, hp, hq]
            simp
          have e2 : crPairs (f :: v :: l) = (crLine f v ++ [10]) ++ crPairs l := by
            unfold crPairs
            rw [crPr, List.map_cons, List.flatten_cons]
          rw [e1, e2, List.append_assoc out]

set_option maxRecDepth 100000 in
set_option maxHeartbeats 8000000 in
theorem head5017 (E : Env) (cf : CallF) (m : Nat) (V : List SV → Option AV) (pV : E.pure 40 = some V) (h54 : E.pure 39 = some F54) (h44 : E.pure 41 = some F44) (xs : List SV) (out : List UInt8) (i : Nat) (bx : List Box) (nm : List UInt8) (U T : List SV) (hlt : i < xs.length) (hxl : xs.length < 1000000000)
    (hc : ∀ h : i < xs.length, xs[i]'h = .agg [.str nm, .sl U, .sl T]) (a c d e : Bool) (wv r2 : Int) (eW : F54 [.str nm] = some (.sv (.bool a))) (eI : V [.str nm, .int .u8 58] = some (.sv (.int .i64 wv))) (g0 : binSV .geq (.int .i64 wv) (.int .i64 0) = some (.bool !c))
    (gN : binSV .gtr (.int .i64 (U.length : Int)) (.int .i64 0) = some (.bool !d)) (gR : binSV .rem (.int .i64 (T.length : Int)) (.int .i64 2) = some (.int .i64 r2)) (gE : binSV .neq (.int .i64 r2) (.int .i64 0) = some (.bool !e))
    (L : List UInt8) (e44 : F44 [.str [110, 97, 109, 101], .int .i64 13] = some (.sv (.str L))) (y1 : binSV .add (.str L) (.str [58, 32]) = some (.str (L ++ [58, 32]))) (y2 : binSV .add (.str (L ++ [58, 32])) (.str nm) = some (.str (L ++ [58, 32] ++ nm))) (y3 : binSV .add (.str (L ++ [58, 32] ++ nm)) (.str [10]) = some (.str (L ++ [58, 32] ++ nm ++ [10]))) (y4 : binSV .add (.str out) (.str (L ++ [58, 32] ++ nm ++ [10])) = some (.str (out ++ (L ++ [58, 32] ++ nm ++ [10]))))
    (k5 : Bool) (outP outZ : List UInt8) (y5 : k5 = true → a = true → c = true → binSV .add (.str outP) (.str [10]) = some (.str outZ))
    (hin : a = true → c = true → d = true → e = true → roundsA (evCA E cf m b5017_0) m (stI5017 xs (out ++ (L ++ [58, 32] ++ nm ++ [10])) i bx.length (bx ++ [.live [.sv (.str nm), .sv (.sl U), .sv (.sl T)]]) 0) = if k5 = true then some (.exit 2, { nt := 98, tm := [(10, .sv (.int .i64 i)), (9, .sv (.int .i64 xs.length)), (8, .sv (.sl xs)), (4, .sv (.str outP))], lz := none, bx := bx ++ [.live [.sv (.str nm), .sv (.sl U), .sv (.sl T)]], df := [] }) else some (.ret, bad5017 (bx ++ [.live [.sv (.str nm), .sv (.sl U), .sv (.sl T)]]))) :
    evCA E cf m b5017_1 (st5017 xs out i bx) = if (a && (c && (d && (e && k5)))) = true then some (.normal, st5017 xs outZ (i + 1) (bx ++ [.live [.sv (.str nm), .sv (.sl U), .sv (.sl T)]])) else some (.ret, bad5017 (bx ++ [.live [.sv (.str nm), .sv (.sl U), .sv (.sl T)]])) := by
  have w1 : binSV .add (.int .i64 (i : Int)) (.int .i64 1) = some (.int .i64 ((i : Int) + 1)) := addI (by rw [IntKind.wrap_i64]; omega)
  have hlss : binSV .lss (.int .i64 (i : Int)) (.int .i64 (xs.length : Int)) = some (.bool true) := by
    simp only [binSV, if_true, show (i : Int) < (xs.length : Int) from by omega, decide_true]
  unfold stI5017 at hin
  unfold st5017 bad5017 at *
  generalize out ++ (L ++ [58, 32] ++ nm ++ [10]) = Z4 at *
  generalize L ++ [58, 32] ++ nm ++ [10] = Z3 at *
  generalize L ++ [58, 32] ++ nm = Z2 at *
  generalize L ++ [58, 32] = Z1 at *
  simp only [Int.ofNat_zero, Int.natCast_zero] at hin
  cases a with
  | false => simp [-binSV, b5017_1, hlss, hlt, hc, h54, eW]
  | true =>
    cases c with
    | false => simp [-binSV, b5017_1, hlss, hlt, hc, h54, eW, pV, eI, g0]
    | true =>
      cases d with
      | false => simp [-binSV, b5017_1, hlss, hlt, hc, h54, eW, pV, eI, g0, gN]
      | true =>
        cases e with
        | false => simp [-binSV, b5017_1, hlss, hlt, hc, h54, eW, pV, eI, g0, gN, gR, gE]
        | true =>
          have hin := hin rfl rfl rfl rfl
          cases k5 with
          | false =>
            rw [if_neg (by simp)] at hin
            simp [-binSV, b5017_1, hlss, hlt, hc, h54, eW, pV, eI, g0, gN, gR, gE, h44, e44, y1, y2, y3, y4, hin]
          | true =>
            have y5 := y5 rfl rfl rfl
            rw [if_pos rfl] at hin
            simp [-binSV, b5017_1, hlss, hlt, hc, h54, eW, pV, eI, g0, gN, gR, gE, h44, e44, y1, y2, y3, y4, hin, y5, w1]

/-- How long what is written of a row is. -/
theorem crPairs_len : ∀ (k : Nat) (l pre fs : List (List UInt8)), l.length ≤ k → crOkS pre l = true → fs.Nodup → (∀ x ∈ fs, x ∈ crGood ∧ x ∈ pre) → (∀ s ∈ l, s.length < 2147483648) → (crPairs l).length + fs.length * crB ≤ 18 * crB
  | _, [], pre, fs, _, _, hn, hf, _ => by
    have : fs.length ≤ 18 := by rw [← crGood_len]; exact nodup_sub2 fs crGood hn (fun x hx => (hf x hx).1)
    have := Nat.mul_le_mul_right crB this
    simpa [crPairs, crPr] using this
  | _, [_], _, _, _, h, _, _, _ => by cases h
  | k + 1, f :: v :: l, pre, fs, hk, h, hn, hf, hs => by
    unfold crOkS at h
    rw [Bool.and_eq_true, Bool.and_eq_true] at h
    obtain ⟨h1, h2, h3⟩ := h
    have h2' : (pre.any fun p => p == f) = false := by simpa only [Bool.not_eq_true'] using h2
    have hni := any_strs pre f h2'
    have ih := crPairs_len k l (pre ++ [f, v]) (f :: fs) (by simp only [List.length_cons] at hk; omega) h3 (List.nodup_cons.2 ⟨fun hm => hni (hf f hm).2, hn⟩) (fun x hx => by
      rcases List.mem_cons.1 hx with rfl | hx
      · exact ⟨(crFine_good h1).1, by simp⟩
      · exact ⟨(hf x hx).1, List.mem_append_left _ (hf x hx).2⟩) (fun s hx => hs s (by simp [hx]))
    have h4 := (crFine_good h1).2
    have h5 := hs v (by simp)
    have hLl := leftS_len f 13
    have hcl : (crLine f v ++ [10]).length ≤ crB := by
      unfold crLine
      have hB : crB = 2147483748 := rfl
      simp only [List.length_append, List.length_cons, List.length_nil]
      omega
    have e2 : crPairs (f :: v :: l) = (crLine f v ++ [10]) ++ crPairs l := by
      unfold crPairs
      rw [crPr, List.map_cons, List.flatten_cons]
    rw [e2, List.length_append]
    rw [List.length_cons, Nat.add_mul, Nat.one_mul] at ih
    omega

theorem crRowT_len {r : RowD} (hf : r.fits3) (h : crOk1 r = true) : (crRowT r).length ≤ 19 * crB := by
  unfold crOk1 at h
  simp only [Bool.and_eq_true] at h
  have := crPairs_len _ r.S [] [] (Nat.le_refl _) h.2.2.2.2 List.nodup_nil (by simp) hf.2.2.2.2
  simp only [List.length_nil, Nat.zero_mul, Nat.add_zero] at this
  unfold crRowT crLine
  have hB : crB = 2147483748 := rfl
  have hLl := leftS_len sName 13
  have hsn : sName.length = 4 := rfl
  have := hf.1
  simp only [List.length_append, List.length_cons, List.length_nil]
  omega

theorem loop5017 (E : Env) (cf : CallF) (m : Nat) (hm : 2147483648 < m) (hG : Has E 42 S5042) (hA : Has E 43 S5043) (hV : Has E 40 S2191) (h54 : E.pure 39 = some F54) (h44 : E.pure 41 = some F44) (xs : List SV) (hxl : xs.length < 100000000) :
    ∀ (rest : List RowD) (pre : List SV) (out : List UInt8) (bx : List Box) (i k : Nat), xs = pre ++ rowsSV rest → i = pre.length → (∀ r ∈ rest, r.fits3) → out.length ≤ i * (19 * crB) → rest.length < k →
      ∃ bx', roundsA (evCA E cf m b5017_1) k (st5017 xs out i bx) = if rest.all crOk1 = true then some (.exit 0, { nt := 98, tm := [(4, .sv (.str (out ++ crText rest)))], lz := none, bx := bx', df := [] }) else some (.ret, bad5017 bx') := by
  obtain ⟨V, pV, sV⟩ := hV
  intro rest
  induction rest with
  | nil =>
    intro pre out bx i k hsp hi _ _ hk
    obtain ⟨k, rfl⟩ : ∃ k', k = k' + 1 := ⟨k - 1, by omega⟩
    have hlt : ¬ (i < xs.length) := by rw [hsp, hi]; simp [rowsSV]
    refine ⟨bx, ?_⟩
    rw [List.all_nil, if_pos rfl]
    refine roundsA_out ?_ (by simp)
    simp [st5017, b5017_1, hlt, crText]
  | cons r rest ih =>
    intro pre out bx i k hsp hi hr ho hk
    obtain ⟨k, rfl⟩ : ∃ k', k = k' + 1 := ⟨k - 1, by omega⟩
    have hlt : i < xs.length := by rw [hsp, hi]; simp [rowsSV]
    have hc : ∀ h : i < xs.length, xs[i]'h = .agg [.str r.name, .sl (u64s r.N), .sl (strs r.S)] := by subst hi; subst hsp; simp [rowsSV, RowD.sv]
    obtain ⟨f1, f2, f3, f4, f5⟩ := hr r (by simp)
    have hUl : (u64s r.N).length = r.N.length := u64s_length _
    have hTl : (strs r.S).length = r.S.length := strs_length _
    have hB : crB = 2147483748 := rfl
    have hbase : out.length + 19 * crB < 4611686018427387904 - 19 * crB := by
      have h1 : i * (19 * crB) ≤ 99999998 * (19 * crB) := Nat.mul_le_mul_right _ (by omega)
      omega
    have hLl := leftS_len sName 13
    have hsn : sName.length = 4 := rfl
    have e44 := F44_eq sName 13 (by decide) (by decide)
    rw [show ((13 : Nat) : Int) = 13 from rfl] at e44
    have eI := sV r.name 58 (by omega)
    rw [show (((58 : UInt8).toNat : Nat) : Int) = 58 from rfl, show (58 : UInt8).toNat = 58 from rfl] at eI
    have g0 : binSV .geq (.int .i64 (whereI 58 0 r.name)) (.int .i64 0) = some (.bool !(decide (whereI 58 0 r.name < 0))) := by
      simp only [binSV, if_true]
      congr 2
      by_cases h : whereI 58 0 r.name < 0
      · rw [decide_eq_true h, decide_eq_false (by omega)]; rfl
      · rw [decide_eq_false h, decide_eq_true (by omega)]; rfl
    have gN : binSV .gtr (.int .i64 ((u64s r.N).length : Int)) (.int .i64 0) = some (.bool !(decide (r.N.length = 0))) := by
      rw [hUl]
      simp only [binSV, if_true]
      congr 2
      by_cases h : r.N.length = 0
      · rw [decide_eq_true h, decide_eq_false (by omega)]; rfl
      · rw [decide_eq_false h, decide_eq_true (by omega)]; rfl
    have gR : binSV .rem (.int .i64 ((strs r.S).length : Int)) (.int .i64 2) = some (.int .i64 (((strs r.S).length : Int).tmod 2)) := by
      simp only [binSV, if_true]
      rw [if_neg (by decide)]
    have gE : binSV .neq (.int .i64 (((strs r.S).length : Int).tmod 2)) (.int .i64 0) = some (.bool !(decide (r.S.length % 2 = 0))) := by
      rw [hTl]
      simp only [binSV, if_true]
      have : ((r.S.length : Int).tmod 2) = ((r.S.length % 2 : Nat) : Int) := by
        rw [Int.tmod_eq_emod_of_nonneg (by omega)]; omega
      rw [this]
      by_cases h : r.S.length % 2 = 0
      · rw [decide_eq_true h, h]; rfl
      · rw [decide_eq_false h]
        have : r.S.length % 2 = 1 := by omega
        rw [this]; rfl
    have hN0 : (out.length + crB) + 18 * crB < 4611686018427387904 := by omega
    have hl1 : (out ++ (leftS sName 13 ++ [58, 32] ++ r.name ++ [10])).length ≤ out.length + crB := by
      simp only [List.length_append, List.length_cons, List.length_nil]
      omega
    have hl2 : crOkS [] r.S = true → (out ++ (leftS sName 13 ++ [58, 32] ++ r.name ++ [10]) ++ crPairs r.S).length ≤ out.length + 19 * crB := by
      intro h
      have := crPairs_len _ r.S [] [] (Nat.le_refl _) h List.nodup_nil (by simp) f5
      simp only [List.length_nil, Nat.zero_mul, Nat.add_zero] at this
      rw [List.length_append]
      omega
    have hin : decide (r.S.length % 2 = 0) = true → _ := fun he => loopI5017 E cf m hG hA h44 xs i bx.length (bx ++ [.live [.sv (.str r.name), .sv (.sl (u64s r.N)), .sv (.sl (strs r.S))]]) r.name r.S (u64s r.N) (by simp) f4 f5 (out.length + crB) hN0 m r.S [] [] (out ++ (leftS sName 13 ++ [58, 32] ++ r.name ++ [10])) rfl (of_decide_eq_true he) List.nodup_nil (by simp) (by simpa using hl1) (by omega)
    have hst := head5017 E cf m V pV h54 h44 xs out i bx r.name (u64s r.N) (strs r.S) hlt (by omega) hc _ _ _ _ _ _ (wordW r.name (by omega)) eI g0 gN gR gE _ e44
      (addC (by simp; omega)) (addC (by simp only [List.length_append, List.length_cons, List.length_nil]; omega)) (addC (by simp only [List.length_append, List.length_cons, List.length_nil]; omega)) (addC (by simp only [List.length_append, List.length_cons, List.length_nil]; omega))
      (crOkS [] r.S) (out ++ (leftS sName 13 ++ [58, 32] ++ r.name ++ [10]) ++ crPairs r.S) _ (fun h _ _ => addC (by have := hl2 h; simp only [List.length_cons, List.length_nil]; omega)) (fun _ _ _ he => hin he)
    cases hv : crOk1 r with
    | false =>
      rw [show (isWord r.name && (decide (whereI 58 0 r.name < 0) && (decide (r.N.length = 0) && (decide (r.S.length % 2 = 0) && crOkS [] r.S)))) = false from hv, if_neg (by simp)] at hst
      exact ⟨_, by rw [if_neg (by simp [hv])]; exact roundsA_out hst (by simp)⟩
    | true =>
      rw [show (isWord r.name && (decide (whereI 58 0 r.name < 0) && (decide (r.N.length = 0) && (decide (r.S.length % 2 = 0) && crOkS [] r.S)))) = true from hv, if_pos rfl] at hst
      have hrl := crRowT_len (hr r (by simp)) hv
      have e1 : out ++ (leftS sName 13 ++ [58, 32] ++ r.name ++ [10]) ++ crPairs r.S ++ [10] = out ++ crRowT r := by
        unfold crRowT crLine
        simp
      rw [e1] at hst
      obtain ⟨bx', he⟩ := ih (pre ++ [r.sv]) (out ++ crRowT r) (bx ++ [.live [.sv (.str r.name), .sv (.sl (u64s r.N)), .sv (.sl (strs r.S))]]) (i + 1) k (by rw [hsp]; simp [rowsSV]) (by simp [hi]) (fun q hq => hr q (by simp [hq])) (by rw [List.length_append, Nat.add_mul, Nat.one_mul]; omega) (by simp at hk; omega)
      refine ⟨bx', ?_⟩
      rw [roundsA_step hst, he]
      simp only [List.all_cons, hv, Bool.true_and]
      unfold crText
      rw [List.map_cons, List.flatten_cons, List.append_assoc]

def S5017 (F : List SV → Option AV) : Prop := SPrintG crOk crText F

theorem ev5017 (E : Env) (h : E.code 17 = some c5017) (hG : Has E 42 S5042) (hA : Has E 43 S5043) (hV : Has E 40 S2191) (h54 : E.pure 39 = some F54) (h44 : E.pure 41 = some F44) : S5017 (autoF E 17) := by
  intro l hl
  have hrl : (rowsSV l).length = l.length := by simp [rowsSV]
  obtain ⟨N, hN⟩ : ∃ N, N = l.length + 2147483649 := ⟨_, rfl⟩
  obtain ⟨bx', he⟩ := loop5017 E (evF E N) N (by omega) hG hA hV h54 h44 (rowsSV l) (by have := hl.1; omega) l [] [] [] 0 N rfl rfl hl.2 (by simp) (by omega)
  refine autoA_sv (n := N) ?_ (by split <;> rfl)
  unfold evPA
  simp only [h]
  unfold crOk
  simp only [st5017, bad5017, Int.ofNat_zero, Int.natCast_zero, List.nil_append] at he
  clear hN
  generalize rowsSV l = R at *
  generalize crText l = TT at *
  cases hv : l.all crOk1 with
  | false => rw [hv, if_neg (by simp)] at he; simp [c5017, he]
  | true => rw [hv, if_pos rfl] at he; simp [c5017, he]

end Go.Ev

set_option linter.unusedSimpArgs false
set_option linter.unusedVariables false
namespace Go.Ev
open Go.Proofs

/-- The text of a field among pairs: the last one, and whether there is one. -/
def crLk (lab : List UInt8) : List (List UInt8) → List UInt8 × Bool → List UInt8 × Bool
  | f :: v :: l, a => crLk lab l (if f = lab then (v, true) else a)
  | _, a => a

def crGot (r : RowD) (x : CrF) : List UInt8 × Bool := crLk x.lab r.S (r.name, x.lab == sName)
def crNum (v : List UInt8) : Nat := match numV 10 0 v with
  | some n => n
  | none => 0
def crNode (x : CrF) (v : List UInt8) (ok : Bool) : SV :=
  if x.k = 98 then nodeV x.nm 1 (v == sYes) 0 0 0 [] []
  else if x.k = 115 then nodeV x.nm 5 false 0 0 0 v []
  else if ok = false then nodeV x.nm 0 false 0 0 0 [] []
  else if x.k = 105 then nodeV x.nm 2 false (IntKind.i64.wrap (crNum v : Int)) 0 0 [] []
  else nodeV x.nm 3 false 0 (crNum v : Int) 0 [] []
def crKid (r : RowD) (x : CrF) : SV := crNode x (if (crGot r x).2 = true then (crGot r x).1 else []) (crGot r x).2
def crRec (r : RowD) : SV := nodeV [] 8 false 0 0 0 [] (crTab.map (crKid r))
def crTree (rs : List RowD) : SV := nodeV [] 6 false 0 0 0 [] (rs.map crRec)

/-- What stands beside the pairs' loop. -/
structure TrC where
  xs : List SV
  i : Nat
  acc : List SV
  b : Nat
  kids : List SV
  NM : List SV
  j : Nat
  W : List Box

def st0_5018 (t : TrC) (b2 : Nat) (v : List UInt8) (ok : Bool) (q : Nat) : SA := { nt := 130, tm := [(33, .sv (.int .i64 t.j)), (32, .sv (.int .i64 21)), (31, .sv (.sl t.NM)), (27, .sv (.int .i64 t.i)), (26, .sv (.int .i64 t.xs.length)), (25, .sv (.sl t.xs)), (14, .sv (.int .i64 q)), (13, .sv (.bool ok)), (12, .sv (.str v)), (11, .ptr b2 0), (9, accA 43 t.kids), (8, .ptr t.b 0), (6, accA 43 t.acc), (2, .ptr 0 0)], lz := none, bx := t.W, df := [] }

set_option maxRecDepth 100000 in
set_option maxHeartbeats 4000000 in
theorem step0_5018 (E : Env) (cf : CallF) (m : Nat) (t : TrC) (b2 : Nat) (v : List UInt8) (ok : Bool) (q : Nat) (nm xn xl : List UInt8) (xk : SV) (U T : List SV) (hW : t.W[t.b]? = some (.live [.sv (.str nm), .sv (.sl U), .sv (.sl T)])) (hW2 : t.W[b2]? = some (.live [.sv (.str xn), .sv (.str xl), .sv xk])) (hq : q + 1 < T.length) (hTl : T.length < 1000000000000) (f w : List UInt8)
    (h1 : ∀ h : q < T.length, T[q]'h = .str f) (h2 : ∀ h : q + 1 < T.length, T[q + 1]'h = .str w) :
    evCA E cf m b5018_0 (st0_5018 t b2 v ok q) = some (.normal, if f = xl then st0_5018 t b2 w true (q + 2) else st0_5018 t b2 v ok (q + 2)) := by
  have w1 : binSV .add (.int .i64 (q : Int)) (.int .i64 1) = some (.int .i64 ((q : Int) + 1)) := addI (by rw [IntKind.wrap_i64]; omega)
  have w2 : binSV .add (.int .i64 (q : Int)) (.int .i64 2) = some (.int .i64 ((q : Int) + 2)) := addI (by rw [IntKind.wrap_i64]; omega)
  have hlss : binSV .lss (.int .i64 (q : Int)) (.int .i64 (T.length : Int)) = some (.bool true) := by
    simp only [binSV, if_true, show (q : Int) < (T.length : Int) from by omega, decide_true]
  have c2 : ((q : Int) + 1) < (T.length : Int) := by omega
  have c3 : q < T.length := by omega
  have c4 : (0 : Int) ≤ (q : Int) + 1 := by omega
  have c7 : ((q : Int) + 1).toNat = q + 1 := by omega
  have e1 := eqlS f xl
  obtain ⟨xs, i, acc, b, kids, NM, j, W⟩ := t
  simp only at hW hW2
  unfold st0_5018
  simp only
  generalize accA 43 kids = AK at *
  generalize accA 43 acc = AC at *
  by_cases h : f = xl
  · rw [show (f == xl) = true from by simpa using h] at e1
    rw [if_pos h]
    clear h
    simp [-binSV, b5018_0, hW, hW2, hlss, c2, c3, c4, c7, h1, h2, hq, e1, w1, w2]
  · rw [show (f == xl) = false from by simpa using h] at e1
    rw [if_neg h]
    clear h
    simp [-binSV, b5018_0, hW, hW2, hlss, c2, c3, c4, c7, h1, h2, hq, e1, w1, w2]

theorem loop0_5018 (E : Env) (cf : CallF) (m : Nat) (t : TrC) (b2 : Nat) (nm xn xl : List UInt8) (xk : SV) (U : List SV) (S : List (List UInt8)) (hW : t.W[t.b]? = some (.live [.sv (.str nm), .sv (.sl U), .sv (.sl (strs S))])) (hW2 : t.W[b2]? = some (.live [.sv (.str xn), .sv (.str xl), .sv xk])) (hSl : S.length < 1000000000000) :
    ∀ (k : Nat) (rest pre : List (List UInt8)) (v : List UInt8) (ok : Bool), S = pre ++ rest → rest.length % 2 = 0 → rest.length < k →
      roundsA (evCA E cf m b5018_0) k (st0_5018 t b2 v ok pre.length) = some (.exit 4, { nt := 130, tm := [(33, .sv (.int .i64 t.j)), (32, .sv (.int .i64 21)), (31, .sv (.sl t.NM)), (27, .sv (.int .i64 t.i)), (26, .sv (.int .i64 t.xs.length)), (25, .sv (.sl t.xs)), (13, .sv (.bool (crLk xl rest (v, ok)).2)), (12, .sv (.str (crLk xl rest (v, ok)).1)), (11, .ptr b2 0), (9, accA 43 t.kids), (8, .ptr t.b 0), (6, accA 43 t.acc), (2, .ptr 0 0)], lz := none, bx := t.W, df := [] }) := by
  have hTl : (strs S).length = S.length := strs_length S
  intro k
  induction k with
  | zero => intro rest pre v ok _ _ hk; omega
  | succ k ih =>
    intro rest pre v ok hsp hev hk
    match rest with
    | [] =>
      have hlt : ¬ (pre.length < (strs S).length) := by rw [hTl, hsp]; simp
      refine roundsA_out ?_ (by simp)
      obtain ⟨xs, i, acc, b, kids, NM, j, W⟩ := t
      simp only at hW hW2
      unfold st0_5018 crLk
      simp only
      generalize strs S = T at *
      generalize accA 43 kids = AK at *
      generalize accA 43 acc = AC at *
      simp [b5018_0, hW, hlt]
    | [x] => simp at hev
    | f :: w :: l =>
      have c1 : pre.length + 1 < (strs S).length := by rw [hTl, hsp]; simp
      have g1 : ∀ h : pre.length < (strs S).length, (strs S)[pre.length]'h = .str f := by subst hsp; simp [strs]
      have g2 : ∀ h : pre.length + 1 < (strs S).length, (strs S)[pre.length + 1]'h = .str w := by subst hsp; simp [strs]
      have hst := step0_5018 E cf m t b2 v ok pre.length nm xn xl xk U (strs S) hW hW2 c1 (by omega) f w g1 g2
      have hpl : (pre ++ [f, w]).length = pre.length + 2 := by simp
      rw [roundsA_step hst, crLk]
      by_cases h : f = xl
      · rw [if_pos h, if_pos h, ← hpl]
        exact ih l (pre ++ [f, w]) w true (by rw [hsp]; simp) (by simp only [List.length_cons] at hev; omega) (by simp only [List.length_cons] at hk; omega)
      · rw [if_neg h, if_neg h, ← hpl]
        exact ih l (pre ++ [f, w]) v ok (by rw [hsp]; simp) (by simp only [List.length_cons] at hev; omega) (by simp only [List.length_cons] at hk; omega)

/-! ### One field -/

def st1_5018 (t : TrC) : SA := { nt := 130, tm := [(33, .sv (.int .i64 t.j)), (32, .sv (.int .i64 21)), (31, .sv (.sl t.NM)), (27, .sv (.int .i64 t.i)), (26, .sv (.int .i64 t.xs.length)), (25, .sv (.sl t.xs)), (9, accA 43 t.kids), (8, .ptr t.b 0), (6, accA 43 t.acc), (2, .ptr 0 0)], lz := none, bx := t.W, df := [] }

structure CrH (E : Env) : Prop where
  h81 : E.pure 45 = some F81
  hB : Has E 46 S2110
  hT : E.pure 47 = some F34
  hN : Has E 48 S1114c
  hI : E.pure 49 = some F66
  hU : Has E 50 S35w

theorem F81_num (v : List UInt8) (hv : v.length < 1000000000000) : ∃ b, F81 [.str v] = some (.sv (.tup [.int .u64 (crNum v : Int), .bool b])) := by
  have h := F81_eq v (by omega)
  unfold crNum
  cases hn : numV 10 0 v with
  | none => rw [hn] at h; exact ⟨false, h⟩
  | some n => rw [hn] at h; exact ⟨_, h⟩

set_option maxRecDepth 100000 in
set_option maxHeartbeats 16000000 in
theorem step1_5018 (E : Env) (cf : CallF) (m : Nat) (H : CrH E) (t : TrC) (nm : List UInt8) (U T : List SV) (hW : t.W[t.b]? = some (.live [.sv (.str nm), .sv (.sl U), .sv (.sl T)])) (hN : t.NM.length = 21) (hj : t.j < 21) (hkl : t.kids.length < 1000) (x : CrF) (hc : ∀ h : t.j < t.NM.length, t.NM[t.j]'h = .agg [.str x.nm, .str x.lab, .str [x.k]]) (v : List UInt8) (ok : Bool) (hvl : v.length < 1000000000000)
    (hin : roundsA (evCA E cf m b5018_0) m (st0_5018 { t with W := t.W ++ [crBox x] } t.W.length nm (x.lab == sName) 0) = some (.exit 4, { nt := 130, tm := [(33, .sv (.int .i64 t.j)), (32, .sv (.int .i64 21)), (31, .sv (.sl t.NM)), (27, .sv (.int .i64 t.i)), (26, .sv (.int .i64 t.xs.length)), (25, .sv (.sl t.xs)), (13, .sv (.bool ok)), (12, .sv (.str v)), (11, .ptr t.W.length 0), (9, accA 43 t.kids), (8, .ptr t.b 0), (6, accA 43 t.acc), (2, .ptr 0 0)], lz := none, bx := t.W ++ [crBox x], df := [] })) :
    evCA E cf m b5018_1 (st1_5018 t) = some (.normal, st1_5018 { t with kids := t.kids ++ [crNode x (if ok = true then v else []) ok], j := t.j + 1, W := t.W ++ [crBox x] }) := by
  obtain ⟨h81, ⟨FB, pB, sB⟩, hT, ⟨FN, pN, sN⟩, hI, ⟨FU, pU, sU⟩⟩ := H
  obtain ⟨xs, i, acc, b, kids, NM, j, W⟩ := t
  obtain ⟨xn, xl, xk⟩ := x
  simp only at *
  have w1 : binSV .add (.int .i64 (j : Int)) (.int .i64 1) = some (.int .i64 ((j : Int) + 1)) := addI (by rw [IntKind.wrap_i64]; omega)
  have hlss : binSV .lss (.int .i64 (j : Int)) (.int .i64 21) = some (.bool true) := by
    simp only [binSV, if_true, show (j : Int) < 21 from by omega, decide_true]
  have l1 : j < NM.length := by omega
  have hWb : b < W.length := (List.getElem?_eq_some_iff.1 hW).1
  have hW3 : (W ++ [Box.live [.sv (.str xn), .sv (.str xl), .sv (.str [xk])]])[b]? = some (.live [.sv (.str nm), .sv (.sl U), .sv (.sl T)]) := by
    rw [List.getElem?_append_left hWb]; exact hW
  have e1 := eqlS xl sName
  simp only [sName] at e1 hin
  have hkk : ∀ c : UInt8, ([xk] == [c]) = decide (xk = c) := fun c => by
    by_cases hh : xk = c
    · rw [hh, decide_eq_true rfl]; simp
    · rw [decide_eq_false hh]; simpa using hh
  have k1 := eqlS [xk] [98]
  have k2 := eqlS [xk] [115]
  have k3 := eqlS [xk] [105]
  rw [hkk] at k1 k2 k3
  clear hkk
  -- the value
  obtain ⟨v2, hv2⟩ : ∃ v2, v2 = if ok = true then v else [] := ⟨_, rfl⟩
  have hv2l : v2.length < 1000000000000 := by rw [hv2]; split; exact hvl; simp
  obtain ⟨bb, e81⟩ := F81_num v2 hv2l
  rw [← hv2]
  have q0 : ∀ l : List SV, l.length < 1000 → (l.length + 1 + 1) * 96 ≤ 140737488355328 ∧ l.length + 1 + 1 ≤ 140737488355328 := fun l hl => ⟨by omega, by omega⟩
  unfold st0_5018 crBox at hin
  unfold st1_5018 crBox
  simp only [Int.ofNat_zero, Int.natCast_zero] at hin ⊢
  generalize accA 43 acc = AC at *
  have y1 := eqlS v2 sYes
  unfold sYes at y1
  have eB := sB xn (v2 == [121, 101, 115])
  have eN := sN xn
  have eU := sU xn (crNum v2 : Int)
  have hi2 : F66 [.str xn, .int .i64 (IntKind.i64.wrap (crNum v2 : Int))] = some (.sv (nodeV xn 2 false (IntKind.i64.wrap (crNum v2 : Int)) 0 0 [] [])) := rfl
  have hT2 : F34 [.str xn, .str v2] = some (.sv (nodeV xn 5 false 0 0 0 v2 [])) := rfl
  unfold crNode sYes
  simp only
  generalize (v2 == [121, 101, 115]) = by_ at *
  generalize (crNum v2 : Int) = cn at *
  obtain ⟨ci, hci⟩ : ∃ ci, IntKind.i64.wrap cn = ci := ⟨_, rfl⟩
  rw [hci] at hi2 ⊢
  clear hN hj hvl hv2l hWb hW
  by_cases hb : xk = 98
  · rw [decide_eq_true hb] at k1
    rw [if_pos hb]
    clear hb k2 k3 eN eU hi2 hT2
    cases ok with
    | true =>
      rw [if_pos rfl] at hv2
      subst hv2
      · cases kids with
        | nil => simp only [accA] at hin ⊢; simp [-binSV, b5018_1, nodeV, hlss, l1, hc, e1, hin, hW3, h81, e81, w1, k1, y1, pB, eB]
        | cons z zs =>
          simp only [List.length_cons] at hkl
          simp only [accA] at hin ⊢
          obtain ⟨q1, q2⟩ := q0 zs (by omega)
          simp [-binSV, b5018_1, nodeV, hlss, l1, hc, e1, hin, hW3, h81, e81, w1, k1, y1, pB, eB, q1, q2]
    | false =>
      rw [if_neg (by simp)] at hv2
      subst hv2
      · cases kids with
        | nil => simp only [accA] at hin ⊢; simp [-binSV, b5018_1, nodeV, hlss, l1, hc, e1, hin, hW3, h81, e81, w1, k1, y1, pB, eB]
        | cons z zs =>
          simp only [List.length_cons] at hkl
          simp only [accA] at hin ⊢
          obtain ⟨q1, q2⟩ := q0 zs (by omega)
          simp [-binSV, b5018_1, nodeV, hlss, l1, hc, e1, hin, hW3, h81, e81, w1, k1, y1, pB, eB, q1, q2]
  · rw [decide_eq_false hb] at k1
    rw [if_neg hb]
    clear hb y1 eB
    by_cases hs : xk = 115
    · rw [decide_eq_true hs] at k2
      rw [if_pos hs]
      clear hs k3 eN eU hi2
      cases ok with
      | true =>
        rw [if_pos rfl] at hv2
        subst hv2
        cases kids with
        | nil => simp only [accA] at hin ⊢; simp [-binSV, b5018_1, nodeV, hlss, l1, hc, e1, hin, hW3, h81, e81, w1, k1, k2, hT, hT2]
        | cons z zs =>
          simp only [List.length_cons] at hkl
          simp only [accA] at hin ⊢
          obtain ⟨q1, q2⟩ := q0 zs (by omega)
          simp [-binSV, b5018_1, nodeV, hlss, l1, hc, e1, hin, hW3, h81, e81, w1, k1, k2, hT, hT2, q1, q2]
      | false =>
        rw [if_neg (by simp)] at hv2
        subst hv2
        cases kids with
        | nil => simp only [accA] at hin ⊢; simp [-binSV, b5018_1, nodeV, hlss, l1, hc, e1, hin, hW3, h81, e81, w1, k1, k2, hT, hT2]
        | cons z zs =>
          simp only [List.length_cons] at hkl
          simp only [accA] at hin ⊢
          obtain ⟨q1, q2⟩ := q0 zs (by omega)
          simp [-binSV, b5018_1, nodeV, hlss, l1, hc, e1, hin, hW3, h81, e81, w1, k1, k2, hT, hT2, q1, q2]
    · rw [decide_eq_false hs] at k2
      rw [if_neg hs]
      clear hs hT2
      cases ok with
      | false =>
        rw [if_pos rfl]
        rw [if_neg (by simp)] at hv2
        subst hv2
        clear eU hi2 k3
        cases kids with
        | nil => simp only [accA] at hin ⊢; simp [-binSV, b5018_1, nodeV, hlss, l1, hc, e1, hin, hW3, h81, e81, w1, k1, k2, pN, eN]
        | cons z zs =>
          simp only [List.length_cons] at hkl
          simp only [accA] at hin ⊢
          obtain ⟨q1, q2⟩ := q0 zs (by omega)
          simp [-binSV, b5018_1, nodeV, hlss, l1, hc, e1, hin, hW3, h81, e81, w1, k1, k2, pN, eN, q1, q2]
      | true =>
        rw [if_neg (by simp)]
        rw [if_pos rfl] at hv2
        subst hv2
        clear eN
        by_cases hI' : xk = 105
        · rw [decide_eq_true hI'] at k3
          rw [if_pos hI']
          clear hI' eU
          cases kids with
          | nil => simp only [accA] at hin ⊢; simp [-binSV, b5018_1, nodeV, hlss, l1, hc, e1, hin, hW3, h81, e81, w1, k1, k2, k3, hI, hi2, hci]
          | cons z zs =>
            simp only [List.length_cons] at hkl
            simp only [accA] at hin ⊢
            obtain ⟨q1, q2⟩ := q0 zs (by omega)
            simp [-binSV, b5018_1, nodeV, hlss, l1, hc, e1, hin, hW3, h81, e81, w1, k1, k2, k3, hI, hi2, hci, q1, q2]
        · rw [decide_eq_false hI'] at k3
          rw [if_neg hI']
          clear hI' hi2
          cases kids with
          | nil => simp only [accA] at hin ⊢; simp [-binSV, b5018_1, nodeV, hlss, l1, hc, e1, hin, hW3, h81, e81, w1, k1, k2, k3, pU, eU]
          | cons z zs =>
            simp only [List.length_cons] at hkl
            simp only [accA] at hin ⊢
            obtain ⟨q1, q2⟩ := q0 zs (by omega)
            simp [-binSV, b5018_1, nodeV, hlss, l1, hc, e1, hin, hW3, h81, e81, w1, k1, k2, k3, pU, eU, q1, q2]

theorem crLk_mem (lab : List UInt8) (B : Nat) : ∀ (n : Nat) (l : List (List UInt8)) (a : List UInt8 × Bool), l.length ≤ n → a.1.length < B → (∀ s ∈ l, s.length < B) → (crLk lab l a).1.length < B
  | _, [], a, _, h, _ => h
  | _, [_], a, _, h, _ => h
  | 0, f :: v :: l, a, hn, _, _ => by simp at hn
  | n + 1, f :: v :: l, a, hn, h, hs => by
    rw [crLk]
    refine crLk_mem lab B n l _ (by simp only [List.length_cons] at hn; omega) ?_ (fun s hs' => hs s (by simp [hs']))
    split
    · exact hs v (by simp)
    · exact h

theorem loop1_5018 (E : Env) (cf : CallF) (m : Nat) (H : CrH E) (xs acc : List SV) (i b : Nat) (r : RowD) (U : List SV) (hS : r.S.length < 2147483648) (hev : r.S.length % 2 = 0) (hm : r.S.length < m) (hfit : r.name.length < 2147483648 ∧ ∀ s ∈ r.S, s.length < 2147483648) :
    ∀ (rest pre : List CrF) (k : Nat) (kids : List SV) (W : List Box), crTab = pre ++ rest → kids.length = pre.length → W[b]? = some (.live [.sv (.str r.name), .sv (.sl U), .sv (.sl (strs r.S))]) → rest.length < k →
      ∃ W', roundsA (evCA E cf m b5018_1) k (st1_5018 ⟨xs, i, acc, b, kids, crNm, pre.length, W⟩) = some (.exit 2, { nt := 130, tm := [(27, .sv (.int .i64 i)), (26, .sv (.int .i64 xs.length)), (25, .sv (.sl xs)), (9, accA 43 (kids ++ rest.map (crKid r))), (6, accA 43 acc), (2, .ptr 0 0)], lz := none, bx := W', df := [] }) ∧ ∃ L, W' = W ++ L := by
  intro rest
  induction rest with
  | nil =>
    intro pre k kids W hsp hkl hW hk
    obtain ⟨k, rfl⟩ : ∃ k', k = k' + 1 := ⟨k - 1, by omega⟩
    have h16 : pre.length = 21 := by have := congrArg List.length hsp; simpa [crTab_len] using this.symm
    refine ⟨W, roundsA_out ?_ (by simp), [], by simp⟩
    rw [h16]
    unfold st1_5018
    simp only [List.map_nil, List.append_nil]
    generalize accA 43 kids = AK at *
    generalize accA 43 acc = AC at *
    generalize crNm = NM at *
    simp [b5018_1]
  | cons x rest ih =>
    intro pre k kids W hsp hkl hW hk
    obtain ⟨k, rfl⟩ : ∃ k', k = k' + 1 := ⟨k - 1, by omega⟩
    have hx : crTab[pre.length]? = some x := by rw [hsp]; simp
    have hl : pre.length < 21 := (List.getElem?_eq_some_iff.1 hx).1
    have hWb : b < W.length := (List.getElem?_eq_some_iff.1 hW).1
    have hW3 : (W ++ [crBox x])[b]? = some (.live [.sv (.str r.name), .sv (.sl U), .sv (.sl (strs r.S))]) := by
      rw [List.getElem?_append_left hWb]; exact hW
    have hin := loop0_5018 E cf m ⟨xs, i, acc, b, kids, crNm, pre.length, W ++ [crBox x]⟩ W.length r.name x.nm x.lab (.str [x.k]) U r.S hW3 (by simp [crBox]) (by omega) m r.S [] r.name (x.lab == sName) rfl hev hm
    have hvl : (crGot r x).1.length < 2147483648 := crLk_mem _ _ _ r.S _ (Nat.le_refl _) hfit.1 hfit.2
    have hst := step1_5018 E cf m H ⟨xs, i, acc, b, kids, crNm, pre.length, W⟩ r.name U (strs r.S) hW crNm_len hl (by show kids.length < 1000; omega) x (crNm_get hx) (crGot r x).1 (crGot r x).2 (by omega) hin
    rw [roundsA_step hst]
    obtain ⟨W', h1, L, h2⟩ := ih (pre ++ [x]) k (kids ++ [crKid r x]) (W ++ [crBox x]) (by rw [hsp]; simp) (by simp [hkl]) hW3 (by simp at hk; omega)
    refine ⟨W', ?_, crBox x :: L, by rw [h2]; simp⟩
    rw [show (pre ++ [x]).length = pre.length + 1 from by simp] at h1
    rw [show kids ++ [crKid r x] ++ rest.map (crKid r) = kids ++ (x :: rest).map (crKid r) from by simp] at h1
    exact h1

/-! ### One row -/

def zN : Box := .live [.sv (.str []), .sv (.int .i64 0), .sv (.bool false), .sv (.int .i64 0), .sv (.int .u64 0), .sv (.flt .f64 0), .sv (.str []), .sv .nilS]

def st2_5018 (xs acc : List SV) (i : Nat) (bx : List Box) : SA := { nt := 130, tm := [(27, .sv (.int .i64 i)), (26, .sv (.int .i64 xs.length)), (25, .sv (.sl xs)), (6, accA 43 acc), (2, .ptr 0 0)], lz := none, bx := bx, df := [] }

set_option maxRecDepth 100000 in
set_option maxHeartbeats 8000000 in
theorem step2_5018 (E : Env) (cf : CallF) (m : Nat) (N : List SV → Option AV) (pN : E.pure 44 = some N) (NM : List SV) (sN : N [] = some (.sv (.sl NM))) (hNM : NM.length = 21) (h33 : E.pure 30 = some F33) (xs acc : List SV) (ha : acc.length < 100000000) (i : Nat) (hlt : i < xs.length) (hxl : xs.length < 1000000000) (nm : List UInt8) (U T : List SV) (hc : ∀ h : i < xs.length, xs[i]'h = .agg [.str nm, .sl U, .sl T]) (bx W' : List Box) (KD : List SV)
    (hin : roundsA (evCA E cf m b5018_1) m (st1_5018 ⟨xs, i, acc, bx.length, [], NM, 0, bx ++ [.live [.sv (.str nm), .sv (.sl U), .sv (.sl T)]]⟩) = some (.exit 2, { nt := 130, tm := [(27, .sv (.int .i64 i)), (26, .sv (.int .i64 xs.length)), (25, .sv (.sl xs)), (9, .own 43 KD), (6, accA 43 acc), (2, .ptr 0 0)], lz := none, bx := W', df := [] })) (hKD : KD ≠ []) :
    evCA E cf m b5018_2 (st2_5018 xs acc i bx) = some (.normal, st2_5018 xs (acc ++ [nodeV [] 8 false 0 0 0 [] KD]) (i + 1) W') := by
  have w1 : binSV .add (.int .i64 (i : Int)) (.int .i64 1) = some (.int .i64 ((i : Int) + 1)) := addI (by rw [IntKind.wrap_i64]; omega)
  have hlss : binSV .lss (.int .i64 (i : Int)) (.int .i64 (xs.length : Int)) = some (.bool true) := by
    simp only [binSV, if_true, show (i : Int) < (xs.length : Int) from by omega, decide_true]
  have e33 : F33 [.str [], .sl KD] = some (.sv (nodeV [] 8 false 0 0 0 [] KD)) := rfl
  unfold st1_5018 at hin
  unfold st2_5018
  simp only [Int.ofNat_zero, Int.natCast_zero] at hin
  rw [show accA 43 ([] : List SV) = AV.sv .nilS from rfl] at hin
  unfold nodeV at e33 ⊢
  cases acc with
  | nil => simp only [accA] at hin ⊢; simp [-binSV, b5018_2, hlss, hlt, hc, pN, sN, hNM, hin, h33, e33, w1]
  | cons z zs =>
    simp only [List.length_cons] at ha
    have q1 : (zs.length + 1 + 1) * 96 ≤ 140737488355328 := by omega
    have q2 : zs.length + 1 + 1 ≤ 140737488355328 := by omega
    simp only [accA] at hin ⊢
    simp [-binSV, b5018_2, hlss, hlt, hc, pN, sN, hNM, hin, h33, e33, w1, q1, q2]

theorem loop2_5018 (E : Env) (cf : CallF) (m : Nat) (hm : 2147483648 < m) (H : CrH E) (hN : Has E 44 S5044) (h33 : E.pure 30 = some F33) (xs : List SV) (hxl : xs.length < 100000000) :
    ∀ (rest : List RowD) (pre acc : List SV) (i k : Nat) (bx : List Box), xs = pre ++ rowsSV rest → i = pre.length → acc.length ≤ i → (∀ r ∈ rest, r.fits3 ∧ crOk1 r = true) → rest.length < k →
      ∃ L, roundsA (evCA E cf m b5018_2) k (st2_5018 xs acc i (zN :: bx)) = some (.exit 0, { nt := 130, tm := [(6, accA 43 (acc ++ rest.map crRec)), (2, .ptr 0 0)], lz := none, bx := zN :: L, df := [] }) := by
  obtain ⟨N, pN, sN⟩ := hN
  intro rest
  induction rest with
  | nil =>
    intro pre acc i k bx hsp hi _ _ hk
    obtain ⟨k, rfl⟩ : ∃ k', k = k' + 1 := ⟨k - 1, by omega⟩
    have hlt : ¬ (i < xs.length) := by rw [hsp, hi]; simp [rowsSV]
    refine ⟨bx, roundsA_out ?_ (by simp)⟩
    unfold st2_5018
    simp only [List.map_nil, List.append_nil]
    generalize accA 43 acc = AC at *
    simp [b5018_2, hlt]
  | cons r rest ih =>
    intro pre acc i k bx hsp hi ha hr hk
    obtain ⟨k, rfl⟩ : ∃ k', k = k' + 1 := ⟨k - 1, by omega⟩
    have hlt : i < xs.length := by rw [hsp, hi]; simp [rowsSV]
    have hc : ∀ h : i < xs.length, xs[i]'h = .agg [.str r.name, .sl (u64s r.N), .sl (strs r.S)] := by subst hi; subst hsp; simp [rowsSV, RowD.sv]
    obtain ⟨⟨f1, f2, f3, f4, f5⟩, hok⟩ := hr r (by simp)
    have hev : r.S.length % 2 = 0 := by
      unfold crOk1 at hok
      simp only [Bool.and_eq_true, decide_eq_true_eq] at hok
      exact hok.2.2.2.1
    obtain ⟨W', h1, L, h2⟩ := loop1_5018 E cf m H xs acc i (zN :: bx).length r (u64s r.N) f4 hev (by omega) ⟨f1, f5⟩ crTab [] m [] (zN :: bx ++ [.live [.sv (.str r.name), .sv (.sl (u64s r.N)), .sv (.sl (strs r.S))]]) rfl rfl (by simp) (by rw [crTab_len]; omega)
    have hst := step2_5018 E cf m N pN crNm sN crNm_len h33 xs acc (by omega) i hlt (by omega) r.name (u64s r.N) (strs r.S) hc (zN :: bx) W' (crTab.map (crKid r)) (by
      rw [show AV.own 43 (crTab.map (crKid r)) = accA 43 ([] ++ crTab.map (crKid r)) from rfl]
      exact h1) (by simp [crTab])
    rw [roundsA_step hst, h2]
    obtain ⟨L2, he⟩ := ih (pre ++ [r.sv]) (acc ++ [crRec r]) (i + 1) k (bx ++ [.live [.sv (.str r.name), .sv (.sl (u64s r.N)), .sv (.sl (strs r.S))]] ++ L) (by rw [hsp]; simp [rowsSV]) (by simp [hi]) (by simp; omega) (fun q hq => hr q (by simp [hq])) (by simp at hk; omega)
    refine ⟨L2, ?_⟩
    rw [show acc ++ [crRec r] ++ rest.map crRec = acc ++ (r :: rest).map crRec from by simp] at he
    rw [← he]
    simp [crRec]

def S5018 (F : List SV → Option AV) : Prop := STreeG crOk crTree F

theorem ev5018 (E : Env) (h : E.code 18 = some c5018) (hP : Has E 17 S5017) (H : CrH E) (hN : Has E 44 S5044) (h33 : E.pure 30 = some F33) (h36 : E.pure 51 = some F36) : S5018 (autoF E 18) := by
  obtain ⟨P, pP, sP⟩ := hP
  intro l hl hok
  have eP := sP l hl
  rw [if_pos hok] at eP
  have hok' := hok
  unfold crOk at hok'
  rw [List.all_eq_true] at hok'
  have hrl : (rowsSV l).length = l.length := by simp [rowsSV]
  obtain ⟨N, hNN⟩ : ∃ N, N = l.length + 2147483649 := ⟨_, rfl⟩
  obtain ⟨L, he⟩ := loop2_5018 E (evF E N) N (by omega) H hN h33 (rowsSV l) (by have := hl.1; omega) l [] [] 0 N [] rfl rfl (by simp) (fun r hr => ⟨hl.2 r hr, hok' r hr⟩) (by omega)
  have e36 : F36 [.str [], .sl (l.map crRec)] = some (.sv (nodeV [] 6 false 0 0 0 [] (l.map crRec))) := rfl
  refine autoA_sv (n := N) ?_ rfl
  unfold evPA
  simp only [h]
  simp only [st2_5018, zN, Int.ofNat_zero, Int.natCast_zero, List.nil_append] at he
  rw [show accA 43 ([] : List SV) = AV.sv .nilS from rfl] at he
  clear hNN
  unfold crTree
  unfold nodeV at e36 ⊢
  generalize rowsSV l = R at *
  generalize crText l = TT at *
  generalize l.map crRec = KD at *
  cases KD with
  | nil => simp only [accA] at he; simp [c5018, pP, eP, he, h36, e36]
  | cons z zs => simp only [accA] at he; simp [c5018, pP, eP, he, h36, e36]

end Go.Ev
