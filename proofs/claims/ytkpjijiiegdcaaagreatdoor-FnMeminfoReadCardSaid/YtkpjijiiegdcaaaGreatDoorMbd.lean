/- Memory: what is fine, what is written, what is read (plain; lines printed by a program of this work). -/
/- meant, of any form. -/
/- Memory: names, labels, what is fine, what is written (lines printed by a program of this work). -/
import Derived.Test.YtkpjijiiegdcaaaGreatDoorMas
import Derived.Test.YtkpjijiiegdcaaaGreatDoorMaz
import Derived.Test.YtkpjijiiegdcaaaGreatDoorMbc
import Derived.Test.YtkpjijiiegdcaaaGreatDoorMak
import Derived.Test.YtkpjijiiegdcaaaGreatDoorMaq
set_option linter.unusedSimpArgs false
set_option linter.unusedVariables false
namespace Go.Ev
open Go.Proofs

structure MemF where
  name : List UInt8
  label : List UInt8
  pg : Bool

def mn0 : MemF := ⟨[77, 101, 109, 84, 111, 116, 97, 108], [77, 101, 109, 84, 111, 116, 97, 108], false⟩
def mn1 : MemF := ⟨[77, 101, 109, 70, 114, 101, 101], [77, 101, 109, 70, 114, 101, 101], false⟩
def mn2 : MemF := ⟨[77, 101, 109, 65, 118, 97, 105, 108, 97, 98, 108, 101], [77, 101, 109, 65, 118, 97, 105, 108, 97, 98, 108, 101], false⟩
def mn3 : MemF := ⟨[66, 117, 102, 102, 101, 114, 115], [66, 117, 102, 102, 101, 114, 115], false⟩
def mn4 : MemF := ⟨[67, 97, 99, 104, 101, 100], [67, 97, 99, 104, 101, 100], false⟩
def mn5 : MemF := ⟨[83, 119, 97, 112, 67, 97, 99, 104, 101, 100], [83, 119, 97, 112, 67, 97, 99, 104, 101, 100], false⟩
def mn6 : MemF := ⟨[65, 99, 116, 105, 118, 101], [65, 99, 116, 105, 118, 101], false⟩
def mn7 : MemF := ⟨[73, 110, 97, 99, 116, 105, 118, 101], [73, 110, 97, 99, 116, 105, 118, 101], false⟩
def mn8 : MemF := ⟨[65, 99, 116, 105, 118, 101, 65, 110, 111, 110], [65, 99, 116, 105, 118, 101, 40, 97, 110, 111, 110, 41], false⟩
def mn9 : MemF := ⟨[73, 110, 97, 99, 116, 105, 118, 101, 65, 110, 111, 110], [73, 110, 97, 99, 116, 105, 118, 101, 40, 97, 110, 111, 110, 41], false⟩
def mn10 : MemF := ⟨[65, 99, 116, 105, 118, 101, 70, 105, 108, 101], [65, 99, 116, 105, 118, 101, 40, 102, 105, 108, 101, 41], false⟩
def mn11 : MemF := ⟨[73, 110, 97, 99, 116, 105, 118, 101, 70, 105, 108, 101], [73, 110, 97, 99, 116, 105, 118, 101, 40, 102, 105, 108, 101, 41], false⟩
def mn12 : MemF := ⟨[85, 110, 101, 118, 105, 99, 116, 97, 98, 108, 101], [85, 110, 101, 118, 105, 99, 116, 97, 98, 108, 101], false⟩
def mn13 : MemF := ⟨[77, 108, 111, 99, 107, 101, 100], [77, 108, 111, 99, 107, 101, 100], false⟩
def mn14 : MemF := ⟨[83, 119, 97, 112, 84, 111, 116, 97, 108], [83, 119, 97, 112, 84, 111, 116, 97, 108], false⟩
def mn15 : MemF := ⟨[83, 119, 97, 112, 70, 114, 101, 101], [83, 119, 97, 112, 70, 114, 101, 101], false⟩
def mn16 : MemF := ⟨[90, 115, 119, 97, 112], [90, 115, 119, 97, 112], false⟩
def mn17 : MemF := ⟨[90, 115, 119, 97, 112, 112, 101, 100], [90, 115, 119, 97, 112, 112, 101, 100], false⟩
def mn18 : MemF := ⟨[68, 105, 114, 116, 121], [68, 105, 114, 116, 121], false⟩
def mn19 : MemF := ⟨[87, 114, 105, 116, 101, 98, 97, 99, 107], [87, 114, 105, 116, 101, 98, 97, 99, 107], false⟩
def mn20 : MemF := ⟨[65, 110, 111, 110, 80, 97, 103, 101, 115], [65, 110, 111, 110, 80, 97, 103, 101, 115], false⟩
def mn21 : MemF := ⟨[77, 97, 112, 112, 101, 100], [77, 97, 112, 112, 101, 100], false⟩
def mn22 : MemF := ⟨[83, 104, 109, 101, 109], [83, 104, 109, 101, 109], false⟩
def mn23 : MemF := ⟨[83, 108, 97, 98], [83, 108, 97, 98], false⟩
def mn24 : MemF := ⟨[83, 82, 101, 99, 108, 97, 105, 109, 97, 98, 108, 101], [83, 82, 101, 99, 108, 97, 105, 109, 97, 98, 108, 101], false⟩
def mn25 : MemF := ⟨[83, 85, 110, 114, 101, 99, 108, 97, 105, 109], [83, 85, 110, 114, 101, 99, 108, 97, 105, 109], false⟩
def mn26 : MemF := ⟨[75, 101, 114, 110, 101, 108, 83, 116, 97, 99, 107], [75, 101, 114, 110, 101, 108, 83, 116, 97, 99, 107], false⟩
def mn27 : MemF := ⟨[80, 97, 103, 101, 84, 97, 98, 108, 101, 115], [80, 97, 103, 101, 84, 97, 98, 108, 101, 115], false⟩
def mn28 : MemF := ⟨[83, 101, 99, 80, 97, 103, 101, 84, 97, 98, 108, 101, 115], [83, 101, 99, 80, 97, 103, 101, 84, 97, 98, 108, 101, 115], false⟩
def mn29 : MemF := ⟨[78, 70, 83, 85, 110, 115, 116, 97, 98, 108, 101], [78, 70, 83, 95, 85, 110, 115, 116, 97, 98, 108, 101], false⟩
def mn30 : MemF := ⟨[66, 111, 117, 110, 99, 101], [66, 111, 117, 110, 99, 101], false⟩
def mn31 : MemF := ⟨[87, 114, 105, 116, 101, 98, 97, 99, 107, 84, 109, 112], [87, 114, 105, 116, 101, 98, 97, 99, 107, 84, 109, 112], false⟩
def mn32 : MemF := ⟨[67, 111, 109, 109, 105, 116, 76, 105, 109, 105, 116], [67, 111, 109, 109, 105, 116, 76, 105, 109, 105, 116], false⟩
def mn33 : MemF := ⟨[67, 111, 109, 109, 105, 116, 116, 101, 100, 65, 83], [67, 111, 109, 109, 105, 116, 116, 101, 100, 95, 65, 83], false⟩
def mn34 : MemF := ⟨[86, 109, 97, 108, 108, 111, 99, 84, 111, 116, 97, 108], [86, 109, 97, 108, 108, 111, 99, 84, 111, 116, 97, 108], false⟩
def mn35 : MemF := ⟨[86, 109, 97, 108, 108, 111, 99, 85, 115, 101, 100], [86, 109, 97, 108, 108, 111, 99, 85, 115, 101, 100], false⟩
def mn36 : MemF := ⟨[86, 109, 97, 108, 108, 111, 99, 67, 104, 117, 110, 107], [86, 109, 97, 108, 108, 111, 99, 67, 104, 117, 110, 107], false⟩
def mn37 : MemF := ⟨[80, 101, 114, 99, 112, 117], [80, 101, 114, 99, 112, 117], false⟩
def mn38 : MemF := ⟨[72, 97, 114, 100, 119, 97, 114, 101, 67, 111, 114, 114, 117, 112, 116, 101, 100], [72, 97, 114, 100, 119, 97, 114, 101, 67, 111, 114, 114, 117, 112, 116, 101, 100], false⟩
def mn39 : MemF := ⟨[65, 110, 111, 110, 72, 117, 103, 101, 80, 97, 103, 101, 115], [65, 110, 111, 110, 72, 117, 103, 101, 80, 97, 103, 101, 115], false⟩
def mn40 : MemF := ⟨[70, 105, 108, 101, 72, 117, 103, 101, 80, 97, 103, 101, 115], [70, 105, 108, 101, 72, 117, 103, 101, 80, 97, 103, 101, 115], false⟩
def mn41 : MemF := ⟨[83, 104, 109, 101, 109, 72, 117, 103, 101, 80, 97, 103, 101, 115], [83, 104, 109, 101, 109, 72, 117, 103, 101, 80, 97, 103, 101, 115], false⟩
def mn42 : MemF := ⟨[83, 104, 109, 101, 109, 80, 109, 100, 77, 97, 112, 112, 101, 100], [83, 104, 109, 101, 109, 80, 109, 100, 77, 97, 112, 112, 101, 100], false⟩
def mn43 : MemF := ⟨[67, 109, 97, 84, 111, 116, 97, 108], [67, 109, 97, 84, 111, 116, 97, 108], false⟩
def mn44 : MemF := ⟨[67, 109, 97, 70, 114, 101, 101], [67, 109, 97, 70, 114, 101, 101], false⟩
def mn45 : MemF := ⟨[85, 110, 97, 99, 99, 101, 112, 116, 101, 100], [85, 110, 97, 99, 99, 101, 112, 116, 101, 100], false⟩
def mn46 : MemF := ⟨[72, 117, 103, 101, 80, 97, 103, 101, 115, 84, 111, 116, 97, 108], [72, 117, 103, 101, 80, 97, 103, 101, 115, 95, 84, 111, 116, 97, 108], true⟩
def mn47 : MemF := ⟨[72, 117, 103, 101, 80, 97, 103, 101, 115, 70, 114, 101, 101], [72, 117, 103, 101, 80, 97, 103, 101, 115, 95, 70, 114, 101, 101], true⟩
def mn48 : MemF := ⟨[72, 117, 103, 101, 80, 97, 103, 101, 115, 82, 115, 118, 100], [72, 117, 103, 101, 80, 97, 103, 101, 115, 95, 82, 115, 118, 100], true⟩
def mn49 : MemF := ⟨[72, 117, 103, 101, 80, 97, 103, 101, 115, 83, 117, 114, 112], [72, 117, 103, 101, 80, 97, 103, 101, 115, 95, 83, 117, 114, 112], true⟩
def mn50 : MemF := ⟨[72, 117, 103, 101, 112, 97, 103, 101, 115, 105, 122, 101], [72, 117, 103, 101, 112, 97, 103, 101, 115, 105, 122, 101], false⟩
def mn51 : MemF := ⟨[72, 117, 103, 101, 116, 108, 98], [72, 117, 103, 101, 116, 108, 98], false⟩
def mn52 : MemF := ⟨[68, 105, 114, 101, 99, 116, 77, 97, 112, 52, 107], [68, 105, 114, 101, 99, 116, 77, 97, 112, 52, 107], false⟩
def mn53 : MemF := ⟨[68, 105, 114, 101, 99, 116, 77, 97, 112, 50, 77], [68, 105, 114, 101, 99, 116, 77, 97, 112, 50, 77], false⟩
def mn54 : MemF := ⟨[68, 105, 114, 101, 99, 116, 77, 97, 112, 49, 71], [68, 105, 114, 101, 99, 116, 77, 97, 112, 49, 71], false⟩
def memTab : List MemF := [mn0, mn1, mn2, mn3, mn4, mn5, mn6, mn7, mn8, mn9, mn10, mn11, mn12, mn13, mn14, mn15, mn16, mn17, mn18, mn19, mn20, mn21, mn22, mn23, mn24, mn25, mn26, mn27, mn28, mn29, mn30, mn31, mn32, mn33, mn34, mn35, mn36, mn37, mn38, mn39, mn40, mn41, mn42, mn43, mn44, mn45, mn46, mn47, mn48, mn49, mn50, mn51, mn52, mn53, mn54]

theorem memTab_len : memTab.length = 55 := rfl
theorem memTab_nodup : (memTab.map MemF.name).Nodup := by decide
theorem memTab_words : ∀ f ∈ memTab, (f.name ≠ [] ∧ f.name.length < 20) ∧ f.label ≠ [] ∧ f.label.length < 20 ∧ ∀ c ∈ f.label, wordC c = true := by decide

def memF (s : List UInt8) : Option MemF := memTab.find? fun f => f.name == s
def memLab (s : List UInt8) : List UInt8 := match memF s with
  | some f => f.label
  | none => s
def memPg (s : List UInt8) : Bool := decide (9 ≤ s.length) && (s.take 9 == [72, 117, 103, 101, 80, 97, 103, 101, 115])

theorem memF_of {f : MemF} (h : f ∈ memTab) : memF f.name = some f := by
  unfold memF
  have key : ∀ l : List MemF, (l.map MemF.name).Nodup → f ∈ l → l.find? (fun g => g.name == f.name) = some f := by
    intro l
    induction l with
    | nil => intro _ h; cases h
    | cons g l ih =>
      intro hn hm
      rw [List.map_cons, List.nodup_cons] at hn
      rw [List.find?_cons]
      rcases List.mem_cons.1 hm with rfl | hm
      · simp
      · have : (g.name == f.name) = false := by
          simp only [beq_eq_false_iff_ne, ne_eq]
          intro e
          exact hn.1 (List.mem_map.2 ⟨f, hm, e.symm⟩)
        rw [this]
        exact ih hn.2 hm
  exact key memTab memTab_nodup h

theorem memLab_of {f : MemF} (h : f ∈ memTab) : memLab f.name = f.label := by
  unfold memLab
  rw [memF_of h]

theorem memPg_of : ∀ f ∈ memTab, memPg f.name = f.pg := by decide

def memOk1 (r : RowD) : Bool := memTab.any (fun f => f.name == r.name) && (decide (r.N.length = 1) && (decide (r.S.length = 0) && r.N.all (fun n => decide (n < 9007199254740992))))
def memOk (rs : List RowD) : Bool := rs.all memOk1 && distP [] (rs.map RowD.name)

theorem memOk1_spec {r : RowD} (h : memOk1 r = true) : ∃ f n, f ∈ memTab ∧ r = ⟨f.name, [n], []⟩ ∧ n < 9007199254740992 := by
  unfold memOk1 at h
  simp only [Bool.and_eq_true, decide_eq_true_eq, List.any_eq_true, beq_iff_eq] at h
  obtain ⟨⟨f, hf, hn⟩, h1, h2, h3⟩ := h
  obtain ⟨nm, N, S⟩ := r
  simp only at hn h1 h2 h3
  match N, h1 with
  | [n], _ =>
    have := List.eq_nil_of_length_eq_zero h2
    subst this
    refine ⟨f, n, hf, by rw [hn], ?_⟩
    simpa using h3

def kB : List UInt8 := [107, 66]
def memBody (r : RowD) : List UInt8 := leftS (memLab r.name ++ [58]) 15 ++ 32 :: (rightS (decS (r.N.headD 0)) 8 ++ (if memPg r.name = true then [] else [32, 107, 66]))
def memText (rs : List RowD) : List UInt8 := (rs.map fun r => memBody r ++ [10]).flatten
def memFlds (r : RowD) : List (List UInt8) := (memLab r.name ++ [58]) :: decS (r.N.headD 0) :: (if memPg r.name = true then [] else [kB])

theorem lab_word {f : MemF} (h : f ∈ memTab) : f.label ++ [58] ≠ [] ∧ ∀ c ∈ f.label ++ [58], wordC c = true := by
  obtain ⟨_, h1, _, h2⟩ := memTab_words f h
  refine ⟨by simp, fun c hc => ?_⟩
  rcases List.mem_append.1 hc with hc | hc
  · exact h2 c hc
  · rw [List.mem_singleton.1 hc]; decide

theorem memBody_fields {r : RowD} (h : memOk1 r = true) : fieldsL (memBody r) = memFlds r := by
  obtain ⟨f, n, hf, rfl, hn⟩ := memOk1_spec h
  obtain ⟨l1, l2⟩ := lab_word hf
  obtain ⟨_, g2, g3⟩ := decS_dig n
  rw [fieldsL_eq]
  unfold memBody memFlds
  simp only [memLab_of hf, memPg_of f hf, List.headD_cons]
  rw [fieldG_left l1 (fun c hc => (wordC_blank (l2 c hc)).1), fieldG_right]
  cases f.pg with
  | true =>
    simp only [if_true, List.append_nil]
    rw [fieldG_last g3 (fun c hc => (digC_blank (g2 c hc)).1)]
  | false =>
    simp only [Bool.false_eq_true, if_false]
    rw [fieldG_sep g3 (fun c hc => (digC_blank (g2 c hc)).1) (by decide)]
    rw [fieldG_last (w := [107, 66]) (by simp) (by decide)]
    rfl

theorem rightS_mem {s : List UInt8} {n : Nat} {c : UInt8} (h : c ∈ rightS s n) : c ∈ s ∨ c = 32 := by
  unfold rightS at h
  rcases List.mem_append.1 h with h | h
  · exact .inr (List.eq_of_mem_replicate h)
  · exact .inl h

theorem memBody_chars {r : RowD} (h : memOk1 r = true) : ∀ c ∈ memBody r, c.toNat ≠ 10 ∧ plainC c = true := by
  obtain ⟨f, n, hf, rfl, hn⟩ := memOk1_spec h
  obtain ⟨l1, l2⟩ := lab_word hf
  obtain ⟨_, g2, g3⟩ := decS_dig n
  intro c hc
  unfold memBody at hc
  simp only [memLab_of hf, memPg_of f hf, List.headD_cons] at hc
  rcases List.mem_append.1 hc with hc | hc
  · rcases leftS_mem hc with hc | rfl
    · exact ⟨(wordC_blank (l2 c hc)).2, wordC_plain (l2 c hc)⟩
    · decide
  · rcases List.mem_cons.1 hc with rfl | hc
    · decide
    · rcases List.mem_append.1 hc with hc | hc
      · rcases rightS_mem hc with hc | rfl
        · exact ⟨(digC_blank (g2 c hc)).2, digC_plain (g2 c hc)⟩
        · decide
      · split at hc
        · cases hc
        · have key : ∀ c ∈ ([32, 107, 66] : List UInt8), c.toNat ≠ 10 ∧ plainC c = true := by decide
          exact key c hc

theorem memText_lines {rs : List RowD} (h : ∀ r ∈ rs, memOk1 r = true) : linesL (memText rs) = rs.map memBody := by
  rw [linesL_eq]
  have e : memText rs = ((rs.map memBody).map fun l => l ++ [10]).flatten := by
    unfold memText
    rw [List.map_map]
    rfl
  rw [e]
  exact lineG_lines _ (fun l hl c hc => by
    obtain ⟨r, hr, rfl⟩ := List.mem_map.1 hl
    exact (memBody_chars (h r hr) c hc).1)

/-! ### Fields told from a line with single blanks -/

theorem part_join : ∀ l : List (List UInt8), l ≠ [] → (∀ w ∈ l, ∀ c ∈ w, c.toNat ≠ 32) → partG 32 [] (joinS [32] l) = l
  | [], h, _ => absurd rfl h
  | [w], _, h => by
    have : joinS [32] [w] = w := by simp [joinS]
    rw [this]
    exact partG_none (h w (by simp))
  | w :: v :: l, _, h => by
    have e : joinS [32] (w :: v :: l) = w ++ 32 :: joinS [32] (v :: l) := by simp [joinS]
    have := partG_first (b := 32) (w := w) (rest := joinS [32] (v :: l)) (h w (by simp))
    rw [e]
    rw [show (32 : UInt8).toNat = 32 from rfl] at this
    rw [this, part_join (v :: l) (by simp) (fun x hx => h x (List.mem_cons_of_mem _ hx))]

theorem fieldG_ne : ∀ (s cur : List UInt8), ∀ f ∈ fieldG cur s, f ≠ []
  | [], cur, f, hf => by
    simp only [fieldG] at hf
    split at hf
    · cases hf
    · rw [List.mem_singleton.1 hf]; assumption
  | c :: s, cur, f, hf => by
    simp only [fieldG] at hf
    split at hf
    · split at hf
      · exact fieldG_ne s [] f hf
      · rcases List.mem_cons.1 hf with rfl | hf
        · assumption
        · exact fieldG_ne s [] f hf
    · exact fieldG_ne s _ f hf

theorem normL_fields {a b : List UInt8} (h : normL a = normL b) : fieldsL a = fieldsL b := by
  unfold normL at h
  have key : ∀ s : List UInt8, (∀ w ∈ fieldsL s, w ≠ [] ∧ ∀ c ∈ w, c.toNat ≠ 32) := by
    intro s w hw
    rw [fieldsL_eq] at hw
    refine ⟨fieldG_ne s [] w hw, fun c hc e => ?_⟩
    have := fieldG_noblank s [] (by simp) w hw c hc
    simp [blankC, e] at this
  have ha := key a
  have hb := key b
  generalize fieldsL a = x at *
  generalize fieldsL b = y at *
  have nil_of : ∀ l : List (List UInt8), (∀ w ∈ l, w ≠ [] ∧ ∀ c ∈ w, c.toNat ≠ 32) → joinS [32] l = [] → l = [] := by
    intro l hl hj
    cases l with
    | nil => rfl
    | cons w l =>
      have := (hl w (by simp)).1
      exfalso
      cases l with
      | nil => exact this (by simpa [joinS] using hj)
      | cons v l => simp [joinS] at hj
  by_cases hx : x = []
  · subst hx
    exact (nil_of y hb (by rw [← h]; rfl)).symm
  · by_cases hy : y = []
    · subst hy
      exact nil_of x ha (by rw [h]; rfl)
    · rw [← part_join x hx (fun w hw => (ha w hw).2), ← part_join y hy (fun w hw => (hb w hw).2), h]

/-! ### What is read -/

def memRd (s : List UInt8) (rs : List RowD) : Prop := s.all plainC = true ∧ (memText rs = s ∨ looseV (memText rs) s = true)

theorem memRd_lines {s : List UInt8} {rs : List RowD} (ho : memOk rs = true) (h : memRd s rs) : (linesL s).map fieldsL = rs.map memFlds := by
  unfold memOk at ho
  rw [Bool.and_eq_true, List.all_eq_true] at ho
  have hl := memText_lines ho.1
  have hb : (rs.map memBody).map fieldsL = rs.map memFlds := by
    rw [List.map_map]
    exact List.map_congr_left fun r hr => memBody_fields (ho.1 r hr)
  rcases h.2 with rfl | h2
  · rw [hl, hb]
  · unfold looseV at h2
    split at h2
    · rename_i e
      rw [hl] at e
      have key : ∀ (x y : List (List UInt8)), x.map normL = y.map normL → x.map fieldsL = y.map fieldsL := by
        intro x
        induction x with
        | nil => intro y he; cases y with
          | nil => rfl
          | cons => simp at he
        | cons a x ih =>
          intro y he
          cases y with
          | nil => simp at he
          | cons b y =>
            simp only [List.map_cons, List.cons.injEq] at he ⊢
            exact ⟨normL_fields he.1, ih y he.2⟩
      rw [← key _ _ e, hb]
    · cases h2

theorem memText_plain {rs : List RowD} (h : ∀ r ∈ rs, memOk1 r = true) : (memText rs).all plainC = true := by
  rw [List.all_eq_true]
  intro c hc
  unfold memText at hc
  obtain ⟨l, hl, hcl⟩ := List.mem_flatten.1 hc
  obtain ⟨r, hr, rfl⟩ := List.mem_map.1 hl
  rcases List.mem_append.1 hcl with hcl | hcl
  · exact (memBody_chars (h r hr) c hcl).2
  · rw [List.mem_singleton.1 hcl]; decide

theorem memBack {rs : List RowD} (ho : memOk rs = true) : memRd (memText rs) rs := by
  unfold memOk at ho
  rw [Bool.and_eq_true, List.all_eq_true] at ho
  exact ⟨memText_plain ho.1, .inl rfl⟩

/-! ### The tree -/

def bytesS : List UInt8 := [66, 121, 116, 101, 115]
def zNode (s : List UInt8) : SV := nodeV s 0 false 0 0 0 [] []
def u3Node (s : List UInt8) (n : Nat) : SV := nodeV s 3 false 0 (n : Int) 0 [] []
def numOf (rs : List RowD) (s : List UInt8) : Option Nat := (rowOf rs s).map fun r => r.N.headD 0
def memKid (rs : List RowD) (f : MemF) : SV := match numOf rs f.name with
  | some n => u3Node f.name n
  | none => zNode f.name
def memKidB (rs : List RowD) (f : MemF) : SV := match numOf rs f.name with
  | some n => u3Node (f.name ++ bytesS) (1024 * n)
  | none => zNode (f.name ++ bytesS)
def memTabB : List MemF := memTab.filter fun f => !f.pg
def memTree (rs : List RowD) : SV := nodeV [] 8 false 0 0 0 [] (memTab.map (memKid rs) ++ memTabB.map (memKidB rs))

end Go.Ev

set_option linter.unusedSimpArgs false
set_option linter.unusedVariables false
namespace Go.Ev
open Go.Proofs

/-- The same, of a form where blanks do not count. -/
def SMeanB (P : Nat) (ok : List RowD → Bool) (txt : List RowD → List UInt8) (F : List SV → Option AV) : Prop := ∀ (s : List UInt8) (l : List RowD) (b : Bool), s.length < 1000000 → rowsFit3 l → (ok l = true → (txt l).length < 100000000000) →
  ∃ r, F [.str s, .sl (rowsSV l), .bool b, .fn P [] [], .bool true] = some (.sv (.tup r)) ∧ ((r = [.sl (rowsSV l), .bool true, .int .i64 1] ∧ ok l = true ∧ s.all plainC = true ∧ (txt l = s ∨ looseV (txt l) s = true)) ∨ r = [.sl [], .bool false, .int .i64 2])

theorem mean31b {ok : List RowD → Bool} {txt : List RowD → List UInt8} (E : Env) (h : E.code 45 = some c31) (h78 : E.pure 174 = some F78) (h79 : E.pure 175 = some F79) (h80 : E.pure 176 = some F80) (P : Nat) (hP : Has E P (SPrintG ok txt)) : SMeanB P ok txt (autoF E 45) := by
  obtain ⟨F, hp, hF⟩ := hP
  intro s l b hs hl ho
  have hFl := hF l hl
  cases hb : ok l with
  | true =>
    rw [if_pos hb] at hFl
    refine ⟨_, autoF_sv (ev31b E h h78 h79 h80 P F hp s hs (rowsSV l) b (txt l) 1 (fun _ => ho hb) hFl 1) (by split <;> rfl), ?_⟩
    split
    · rename_i hc
      exact .inl ⟨rfl, rfl, hc.2.1, hc.2.2.2.imp id fun h => h.1⟩
    · exact .inr rfl
  | false =>
    rw [if_neg (by simp [hb])] at hFl
    refine ⟨_, autoF_sv (ev31b E h h78 h79 h80 P F hp s hs (rowsSV l) b [] 2 (fun h => by cases h) hFl 1) (by split <;> rfl), ?_⟩
    rw [if_neg (by simp)]
    exact .inr rfl

end Go.Ev

set_option linter.unusedSimpArgs false
set_option linter.unusedVariables false
namespace Go.Ev
open Go.Proofs

def memNm : List SV := memTab.map fun f => .str f.name
theorem memNm_len : memNm.length = 55 := rfl
theorem memNm_get {j : Nat} {f : MemF} (h : memTab[j]? = some f) : ∀ h : j < memNm.length, memNm[j]'h = .str f.name := by
  intro hl
  have : memNm[j]? = some (.str f.name) := by unfold memNm; rw [List.getElem?_map, h]; rfl
  rw [List.getElem?_eq_getElem hl] at this
  exact Option.some.inj this

def S4031 (F : List SV → Option AV) : Prop := F [] = some (.sv (.sl memNm))

theorem ev4031 (E : Env) (h : E.code 31 = some c4031) : S4031 (autoF E 31) := by
  refine autoA_sl (n := 1) (r := .own 9 memNm) ?_ rfl
  unfold evPA
  simp only [h]
  simp [c4031, memNm, memTab, mn0, mn1, mn2, mn3, mn4, mn5, mn6, mn7, mn8, mn9, mn10, mn11, mn12, mn13, mn14, mn15, mn16, mn17, mn18, mn19, mn20, mn21, mn22, mn23, mn24, mn25, mn26, mn27, mn28, mn29, mn30, mn31, mn32, mn33, mn34, mn35, mn36, mn37, mn38, mn39, mn40, mn41, mn42, mn43, mn44, mn45, mn46, mn47, mn48, mn49, mn50, mn51, mn52, mn53, mn54]

def memSp : List (List UInt8 × List UInt8) := [([65, 99, 116, 105, 118, 101, 65, 110, 111, 110], [65, 99, 116, 105, 118, 101, 40, 97, 110, 111, 110, 41]), ([73, 110, 97, 99, 116, 105, 118, 101, 65, 110, 111, 110], [73, 110, 97, 99, 116, 105, 118, 101, 40, 97, 110, 111, 110, 41]), ([65, 99, 116, 105, 118, 101, 70, 105, 108, 101], [65, 99, 116, 105, 118, 101, 40, 102, 105, 108, 101, 41]), ([73, 110, 97, 99, 116, 105, 118, 101, 70, 105, 108, 101], [73, 110, 97, 99, 116, 105, 118, 101, 40, 102, 105, 108, 101, 41]), ([78, 70, 83, 85, 110, 115, 116, 97, 98, 108, 101], [78, 70, 83, 95, 85, 110, 115, 116, 97, 98, 108, 101]), ([67, 111, 109, 109, 105, 116, 116, 101, 100, 65, 83], [67, 111, 109, 109, 105, 116, 116, 101, 100, 95, 65, 83]), ([72, 117, 103, 101, 80, 97, 103, 101, 115, 84, 111, 116, 97, 108], [72, 117, 103, 101, 80, 97, 103, 101, 115, 95, 84, 111, 116, 97, 108]), ([72, 117, 103, 101, 80, 97, 103, 101, 115, 70, 114, 101, 101], [72, 117, 103, 101, 80, 97, 103, 101, 115, 95, 70, 114, 101, 101]), ([72, 117, 103, 101, 80, 97, 103, 101, 115, 82, 115, 118, 100], [72, 117, 103, 101, 80, 97, 103, 101, 115, 95, 82, 115, 118, 100]), ([72, 117, 103, 101, 80, 97, 103, 101, 115, 83, 117, 114, 112], [72, 117, 103, 101, 80, 97, 103, 101, 115, 95, 83, 117, 114, 112])]
theorem memTab_sp : ∀ f ∈ memTab, ((∀ p ∈ memSp, f.name ≠ p.1) ∧ f.label = f.name) ∨ (f.name, f.label) ∈ memSp := by decide

def S4027 (F : List SV → Option AV) : Prop := ∀ f ∈ memTab, F [.str f.name] = some (.sv (.str f.label))

theorem run4027_n (E : Env) (h : E.code 27 = some c4027) (s : List UInt8) (hs : ∀ p ∈ memSp, s ≠ p.1) : evP E 1 27 [.str s] = some (.sv (.str s)) := by
  unfold evP
  simp only [h]
  have a0 : ¬ s = [65, 99, 116, 105, 118, 101, 65, 110, 111, 110] := hs ([65, 99, 116, 105, 118, 101, 65, 110, 111, 110], [65, 99, 116, 105, 118, 101, 40, 97, 110, 111, 110, 41]) (by unfold memSp; simp)
  have b0 : (s == [65, 99, 116, 105, 118, 101, 65, 110, 111, 110]) = false := by simpa using a0
  have a1 : ¬ s = [73, 110, 97, 99, 116, 105, 118, 101, 65, 110, 111, 110] := hs ([73, 110, 97, 99, 116, 105, 118, 101, 65, 110, 111, 110], [73, 110, 97, 99, 116, 105, 118, 101, 40, 97, 110, 111, 110, 41]) (by unfold memSp; simp)
  have b1 : (s == [73, 110, 97, 99, 116, 105, 118, 101, 65, 110, 111, 110]) = false := by simpa using a1
  have a2 : ¬ s = [65, 99, 116, 105, 118, 101, 70, 105, 108, 101] := hs ([65, 99, 116, 105, 118, 101, 70, 105, 108, 101], [65, 99, 116, 105, 118, 101, 40, 102, 105, 108, 101, 41]) (by unfold memSp; simp)
  have b2 : (s == [65, 99, 116, 105, 118, 101, 70, 105, 108, 101]) = false := by simpa using a2
  have a3 : ¬ s = [73, 110, 97, 99, 116, 105, 118, 101, 70, 105, 108, 101] := hs ([73, 110, 97, 99, 116, 105, 118, 101, 70, 105, 108, 101], [73, 110, 97, 99, 116, 105, 118, 101, 40, 102, 105, 108, 101, 41]) (by unfold memSp; simp)
  have b3 : (s == [73, 110, 97, 99, 116, 105, 118, 101, 70, 105, 108, 101]) = false := by simpa using a3
  have a4 : ¬ s = [78, 70, 83, 85, 110, 115, 116, 97, 98, 108, 101] := hs ([78, 70, 83, 85, 110, 115, 116, 97, 98, 108, 101], [78, 70, 83, 95, 85, 110, 115, 116, 97, 98, 108, 101]) (by unfold memSp; simp)
  have b4 : (s == [78, 70, 83, 85, 110, 115, 116, 97, 98, 108, 101]) = false := by simpa using a4
  have a5 : ¬ s = [67, 111, 109, 109, 105, 116, 116, 101, 100, 65, 83] := hs ([67, 111, 109, 109, 105, 116, 116, 101, 100, 65, 83], [67, 111, 109, 109, 105, 116, 116, 101, 100, 95, 65, 83]) (by unfold memSp; simp)
  have b5 : (s == [67, 111, 109, 109, 105, 116, 116, 101, 100, 65, 83]) = false := by simpa using a5
  have a6 : ¬ s = [72, 117, 103, 101, 80, 97, 103, 101, 115, 84, 111, 116, 97, 108] := hs ([72, 117, 103, 101, 80, 97, 103, 101, 115, 84, 111, 116, 97, 108], [72, 117, 103, 101, 80, 97, 103, 101, 115, 95, 84, 111, 116, 97, 108]) (by unfold memSp; simp)
  have b6 : (s == [72, 117, 103, 101, 80, 97, 103, 101, 115, 84, 111, 116, 97, 108]) = false := by simpa using a6
  have a7 : ¬ s = [72, 117, 103, 101, 80, 97, 103, 101, 115, 70, 114, 101, 101] := hs ([72, 117, 103, 101, 80, 97, 103, 101, 115, 70, 114, 101, 101], [72, 117, 103, 101, 80, 97, 103, 101, 115, 95, 70, 114, 101, 101]) (by unfold memSp; simp)
  have b7 : (s == [72, 117, 103, 101, 80, 97, 103, 101, 115, 70, 114, 101, 101]) = false := by simpa using a7
  have a8 : ¬ s = [72, 117, 103, 101, 80, 97, 103, 101, 115, 82, 115, 118, 100] := hs ([72, 117, 103, 101, 80, 97, 103, 101, 115, 82, 115, 118, 100], [72, 117, 103, 101, 80, 97, 103, 101, 115, 95, 82, 115, 118, 100]) (by unfold memSp; simp)
  have b8 : (s == [72, 117, 103, 101, 80, 97, 103, 101, 115, 82, 115, 118, 100]) = false := by simpa using a8
  have a9 : ¬ s = [72, 117, 103, 101, 80, 97, 103, 101, 115, 83, 117, 114, 112] := hs ([72, 117, 103, 101, 80, 97, 103, 101, 115, 83, 117, 114, 112], [72, 117, 103, 101, 80, 97, 103, 101, 115, 95, 83, 117, 114, 112]) (by unfold memSp; simp)
  have b9 : (s == [72, 117, 103, 101, 80, 97, 103, 101, 115, 83, 117, 114, 112]) = false := by simpa using a9
  simp [c4027, List.replicate, a0, b0, a1, b1, a2, b2, a3, b3, a4, b4, a5, b5, a6, b6, a7, b7, a8, b8, a9, b9]

set_option maxHeartbeats 4000000 in
theorem run4027_s (E : Env) (h : E.code 27 = some c4027) (h76 : E.pure 43 = some F76) : ∀ p ∈ memSp, evP E 1 27 [.str p.1] = some (.sv (.str p.2)) := by
  have hA : F76 [.str [65, 99, 116, 105, 118, 101, 65, 110, 111, 110], .str [65, 110, 111, 110]] = some (.sv (.bool true)) := (onlyIf_pos (by decide)).trans rfl
  have hI : F76 [.str [73, 110, 97, 99, 116, 105, 118, 101, 65, 110, 111, 110], .str [65, 110, 111, 110]] = some (.sv (.bool true)) := (onlyIf_pos (by decide)).trans rfl
  have hF : F76 [.str [65, 99, 116, 105, 118, 101, 70, 105, 108, 101], .str [65, 110, 111, 110]] = some (.sv (.bool false)) := (onlyIf_pos (by decide)).trans rfl
  have hG : F76 [.str [73, 110, 97, 99, 116, 105, 118, 101, 70, 105, 108, 101], .str [65, 110, 111, 110]] = some (.sv (.bool false)) := (onlyIf_pos (by decide)).trans rfl
  have w1 : IntKind.i64.wrap 6 = 6 := by rw [IntKind.wrap_i64]; decide
  have w2 : IntKind.i64.wrap 8 = 8 := by rw [IntKind.wrap_i64]; decide
  intro p hp
  unfold memSp at hp
  simp only [List.mem_cons, List.not_mem_nil, or_false] at hp
  rcases hp with rfl | rfl | rfl | rfl | rfl | rfl | rfl | rfl | rfl | rfl <;> (unfold evP; simp only [h]; simp [c4027, List.replicate, h76, hA, hI, hF, hG, w1, w2])

theorem ev4027 (E : Env) (h : E.code 27 = some c4027) (h76 : E.pure 43 = some F76) : S4027 (autoF E 27) := by
  intro f hf
  rcases memTab_sp f hf with ⟨h1, h2⟩ | h1
  · rw [h2]
    exact autoF_sv (run4027_n E h f.name h1) rfl
  · exact autoF_sv (run4027_s E h h76 _ h1) rfl

def S4030 (F : List SV → Option AV) : Prop := ∀ s : List UInt8, F [.str s] = some (.sv (.bool (memPg s)))

theorem ev4030 (E : Env) (h : E.code 30 = some c4030) (h30 : E.pure 61 = some F30) : S4030 (autoF E 30) := by
  intro s
  have hF : F30 [.str s, .str [72, 117, 103, 101, 80, 97, 103, 101, 115]] = some (.sv (.bool (memPg s))) := rfl
  refine autoA_sv (n := 1) ?_ rfl
  unfold evPA
  simp only [h]
  simp [c4030, h30, hF]

/-! ### What is fine -/

def memBox (nm : List UInt8) (U T : List SV) : Box := .live [.sv (.str nm), .sv (.sl U), .sv (.sl T)]
def st4025 (xs : List SV) (i : Nat) (bx : List Box) : SA := { nt := 47, tm := [(10, .sv (.int .i64 i)), (9, .sv (.int .i64 xs.length)), (8, .sv (.sl xs)), (0, .sv (.sl xs))], lz := none, bx := bx, df := [] }
def sI4025 (xs NM : List SV) (i j : Nat) (b : Bool) (bx : List Box) (z : Box) : SA := { nt := 47, tm := [(16, .sv (.int .i64 j)), (15, .sv (.int .i64 55)), (14, .sv (.sl NM)), (10, .sv (.int .i64 i)), (9, .sv (.int .i64 xs.length)), (8, .sv (.sl xs)), (5, .sv (.bool b)), (4, .ptr bx.length 0), (0, .sv (.sl xs))], lz := none, bx := bx ++ [z], df := [] }
def bad4025 (bx : List Box) : SA := { nt := 47, tm := [(2, .sv (.bool false))], lz := none, bx := bx, df := [] }

set_option maxHeartbeats 4000000 in
theorem stepI4025 (E : Env) (cf : CallF) (m : Nat) (xs NM : List SV) (hN : NM.length = 55) (i j : Nat) (hj : j < 55) (b : Bool) (bx : List Box) (nm : List UInt8) (U T : List SV) (n : List UInt8) (hc : ∀ h : j < NM.length, NM[j]'h = .str n) :
    evCA E cf m b4025_0 (sI4025 xs NM i j b bx (memBox nm U T)) = some (.normal, sI4025 xs NM i (j + 1) (b || (n == nm)) bx (memBox nm U T)) := by
  have hw : IntKind.i64.wrap ((j : Int) + 1) = ((j + 1 : Nat) : Int) := by rw [IntKind.wrap_i64]; omega
  have h2 : (j : Int) < 55 := by omega
  have l1 : j < NM.length := by omega
  unfold sI4025 memBox
  cases b with
  | true => simp [b4025_0, h2, l1, hc, hw]
  | false => simp [b4025_0, h2, l1, hc, hw]

theorem loopI4025 (E : Env) (cf : CallF) (m : Nat) (xs : List SV) (i : Nat) (bx : List Box) (nm : List UInt8) (U T : List SV) :
    ∀ (l pre : List MemF) (j k : Nat) (b : Bool), memTab = pre ++ l → j = pre.length → l.length < k →
      roundsA (evCA E cf m b4025_0) k (sI4025 xs memNm i j b bx (memBox nm U T)) = some (.exit 2, { nt := 47, tm := [(10, .sv (.int .i64 i)), (9, .sv (.int .i64 xs.length)), (8, .sv (.sl xs)), (5, .sv (.bool (b || l.any fun f => f.name == nm))), (4, .ptr bx.length 0), (0, .sv (.sl xs))], lz := none, bx := bx ++ [memBox nm U T], df := [] }) := by
  intro l
  induction l with
  | nil =>
    intro pre j k b hsp hj hk
    obtain ⟨k, rfl⟩ : ∃ k', k = k' + 1 := ⟨k - 1, by omega⟩
    have h16 : j = 55 := by rw [hj]; have := congrArg List.length hsp; simpa [memTab_len] using this.symm
    refine roundsA_out ?_ (by simp)
    subst h16
    simp [b4025_0, sI4025]
  | cons f l ih =>
    intro pre j k b hsp hj hk
    obtain ⟨k, rfl⟩ : ∃ k', k = k' + 1 := ⟨k - 1, by omega⟩
    have hf : memTab[j]? = some f := by rw [hsp, hj]; simp
    have hl : j < 55 := (List.getElem?_eq_some_iff.1 hf).1
    rw [roundsA_step (stepI4025 E cf m xs memNm memNm_len i j hl b bx nm U T f.name (memNm_get hf))]
    rw [ih (pre ++ [f]) (j + 1) k _ (by rw [hsp]; simp) (by simp [hj]) (by simp at hk; omega)]
    simp [Bool.or_assoc]

set_option maxRecDepth 100000 in
set_option maxHeartbeats 4000000 in
theorem step4025 (E : Env) (cf : CallF) (m : Nat) (hm : 55 < m) (h31 : Has E 31 S4031) (h55 : E.pure 46 = some F55) (h57 : E.pure 58 = some F57) (xs : List SV) (r : RowD) (i : Nat) (hlt : i < xs.length) (hxl : xs.length < 1000000000)
    (hc : ∀ h : i < xs.length, xs[i]'h = .agg [.str r.name, .sl (u64s r.N), .sl (strs r.S)]) (bx : List Box) :
    ∃ bx', evCA E cf m b4025_1 (st4025 xs i bx) = if memOk1 r = true then some (.normal, st4025 xs (i + 1) bx') else some (.ret, bad4025 bx') := by
  obtain ⟨F, hp, hF⟩ := h31
  unfold S4031 at hF
  obtain ⟨nm, N, S⟩ := r
  simp only at *
  have hw : IntKind.i64.wrap ((i : Int) + 1) = ((i + 1 : Nat) : Int) := by rw [IntKind.wrap_i64]; omega
  have hin := loopI4025 E cf m xs i bx nm (u64s N) (strs S) memTab [] 0 m false rfl rfl (by rw [memTab_len]; omega)
  have e55 : F55 [.agg [.str nm, .sl (u64s N), .sl (strs S)], .int .i64 1, .int .i64 0] = some (.sv (.bool (decide (N.length = 1) && decide (S.length = 0)))) := by
    have := F55_eq nm (u64s N) (strs S) 1 0
    rw [u64s_length, strs_length] at this
    exact this
  have e57 := F57_eq 9007199254740992 N
  rw [show ((9007199254740992 : Nat) : Int) = 9007199254740992 from rfl] at e57
  unfold memOk1
  simp only [sI4025, memBox, Bool.false_or, Int.ofNat_zero, Int.natCast_zero] at hin
  have hNL := memNm_len
  generalize memNm = NM at *
  generalize memTab.any (fun f => f.name == nm) = kn at *
  refine ⟨bx ++ [.live [.sv (.str nm), .sv (.sl (u64s N)), .sv (.sl (strs S))]], ?_⟩
  unfold st4025 bad4025
  cases kn with
  | false =>
    rw [if_neg (by simp)]
    generalize u64s N = U at *
    generalize strs S = T at *
    simp [b4025_1, hlt, hc, hp, hF, hNL, hin]
  | true =>
    by_cases hs : N.length = 1 ∧ S.length = 0
    · obtain ⟨h1, h2⟩ := hs
      match N, h1 with
      | [n], _ =>
        have e := e57 (by simp)
        have hu : u64s [n] = [.int .u64 (n : Int)] := rfl
        rw [hu] at e e55 hin hc ⊢
        clear hu
        simp only [List.all_cons, List.all_nil, Bool.and_true] at e
        simp only [h2, decide_true, Bool.and_self, List.length_cons, List.length_nil, Nat.zero_add, List.all_cons, List.all_nil, Bool.and_true, Bool.true_and] at *
        generalize strs S = T at *
        by_cases hn : n < 9007199254740992
        · have hd : decide (n < 9007199254740992) = true := by simpa using hn
          rw [hd] at e ⊢
          rw [if_pos rfl]
          simp [b4025_1, hlt, hc, hp, hF, hNL, hin, h55, e55, h57, e, hw]
        · have hd : decide (n < 9007199254740992) = false := by simpa using hn
          rw [hd] at e ⊢
          rw [if_neg (by simp)]
          simp [b4025_1, hlt, hc, hp, hF, hNL, hin, h55, e55, h57, e, hw]
    · have hv : (decide (N.length = 1) && decide (S.length = 0)) = false := by
        rw [Bool.eq_false_iff]
        simpa using hs
      rw [hv] at e55
      rw [if_neg (by
        intro hh
        simp only [Bool.true_and, Bool.and_eq_true, decide_eq_true_eq] at hh
        exact hs ⟨hh.1, hh.2.1⟩)]
      generalize u64s N = U at *
      generalize strs S = T at *
      simp [b4025_1, hlt, hc, hp, hF, hNL, hin, h55, e55]

theorem loop4025 (E : Env) (cf : CallF) (m : Nat) (hm : 55 < m) (h31 : Has E 31 S4031) (h55 : E.pure 46 = some F55) (h57 : E.pure 58 = some F57) (xs : List SV) (hxl : xs.length < 1000000000) :
    ∀ (rest : List RowD) (pre : List SV) (bx : List Box) (i k : Nat), xs = pre ++ rowsSV rest → i = pre.length → rest.length < k →
      ∃ bx', roundsA (evCA E cf m b4025_1) k (st4025 xs i bx) = if rest.all memOk1 = true then some (.exit 0, { nt := 47, tm := [(0, .sv (.sl xs))], lz := none, bx := bx', df := [] }) else some (.ret, bad4025 bx') := by
  intro rest
  induction rest with
  | nil =>
    intro pre bx i k hsp hi hk
    obtain ⟨k, rfl⟩ : ∃ k', k = k' + 1 := ⟨k - 1, by omega⟩
    have hlt : ¬ (i < xs.length) := by rw [hsp, hi]; simp [rowsSV]
    refine ⟨bx, roundsA_out ?_ (by simp)⟩
    simp [st4025, b4025_1, hlt]
  | cons r rest ih =>
    intro pre bx i k hsp hi hk
    obtain ⟨k, rfl⟩ : ∃ k', k = k' + 1 := ⟨k - 1, by omega⟩
    have hlt : i < xs.length := by rw [hsp, hi]; simp [rowsSV]
    have hc : ∀ h : i < xs.length, xs[i]'h = .agg [.str r.name, .sl (u64s r.N), .sl (strs r.S)] := by subst hi; subst hsp; simp [rowsSV, RowD.sv]
    obtain ⟨b1, hst⟩ := step4025 E cf m hm h31 h55 h57 xs r i hlt hxl hc bx
    cases hv : memOk1 r with
    | false =>
      rw [hv, if_neg (by simp)] at hst
      exact ⟨_, by rw [if_neg (by simp [hv])]; exact roundsA_out hst (by simp)⟩
    | true =>
      rw [hv, if_pos rfl] at hst
      obtain ⟨bx', he⟩ := ih (pre ++ [r.sv]) b1 (i + 1) k (by rw [hsp]; simp [rowsSV]) (by simp [hi]) (by simp at hk; omega)
      exact ⟨bx', by rw [roundsA_step hst, he]; simp [hv]⟩

def S4025 (F : List SV → Option AV) : Prop := ∀ l : List RowD, rowsFit3 l → F [.sl (rowsSV l)] = some (.sv (.bool (memOk l)))

theorem ev4025 (E : Env) (h : E.code 25 = some c4025) (h31 : Has E 31 S4031) (h55 : E.pure 46 = some F55) (h57 : E.pure 58 = some F57) (h1084 : E.pure 59 = some F1084) : S4025 (autoF E 25) := by
  intro l hl
  have hrl : (rowsSV l).length = l.length := by simp [rowsSV]
  obtain ⟨bx', he⟩ := loop4025 E (evF E (l.length + 100)) (l.length + 100) (by omega) h31 h55 h57 (rowsSV l) (by have := hl.1; omega) l [] [] 0 (l.length + 100) rfl rfl (by omega)
  have hD := F1084_eq l (by have := hl.1; omega)
  refine autoA_sv (n := l.length + 100) ?_ rfl
  unfold evPA
  simp only [h]
  unfold memOk
  simp only [st4025, bad4025, Int.ofNat_zero, Int.natCast_zero] at he
  generalize rowsSV l = R at *
  cases hv : l.all memOk1 with
  | false => rw [hv, if_neg (by simp)] at he; simp [c4025, he]
  | true => rw [hv, if_pos rfl] at he; simp [c4025, he, h1084, hD]

/-! ### What is written -/

theorem addM {a b : List UInt8} (h : a.length + b.length < 4611686018427387904) : binSV .add (.str a) (.str b) = some (.str (a ++ b)) := by simp [binSV, h]

def st4011 (xs : List SV) (out : List UInt8) (i : Nat) (bx : List Box) : SA := { nt := 41, tm := [(12, .sv (.int .i64 i)), (11, .sv (.int .i64 xs.length)), (10, .sv (.sl xs)), (4, .sv (.str out))], lz := none, bx := bx, df := [] }

set_option maxRecDepth 100000 in
set_option maxHeartbeats 4000000 in
theorem step4011 (E : Env) (cf : CallF) (m : Nat) (h27 : Has E 27 S4027) (h30 : Has E 30 S4030) (h44 : E.pure 26 = some F44) (h45 : E.pure 29 = some F45) (h46 : Has E 28 S46) (xs : List SV) (out : List UInt8) (ho : out.length < 1000000000000000000) (f : MemF) (hf : f ∈ memTab) (n : Nat) (hn : n < 9007199254740992) (i : Nat) (hlt : i < xs.length) (hxl : xs.length < 1000000000)
    (hc : ∀ h : i < xs.length, xs[i]'h = .agg [.str f.name, .sl [.int .u64 (n : Int)], .sl []]) (bx : List Box) :
    evCA E cf m b4011_0 (st4011 xs out i bx) = some (.normal, st4011 xs (out ++ (memBody ⟨f.name, [n], []⟩ ++ [10])) (i + 1) (bx ++ [memBox f.name [.int .u64 (n : Int)] []])) := by
  obtain ⟨FL, pL, sL⟩ := h27
  obtain ⟨FP, pP, sP⟩ := h30
  obtain ⟨FR, pR, sR⟩ := h46
  have e27 := sL f hf
  have e30 := sP f.name
  obtain ⟨_, _, l20, _⟩ := memTab_words f hf
  have e44 := F44_eq (f.label ++ [58]) 15 (by decide) (by rw [List.length_append]; simp; omega)
  have e45 := F45_eq n (by omega)
  have d20 := decS_len20 (n := n) (by omega)
  have e46 := sR (decS n) 8 (by decide) (by omega)
  rw [show ((15 : Nat) : Int) = 15 from rfl] at e44
  rw [show ((8 : Nat) : Int) = 8 from rfl] at e46
  have lL := leftS_len (f.label ++ [58]) 15
  have lR := rightS_len (decS n) 8
  rw [List.length_append] at lL
  simp only [List.length_cons, List.length_nil] at lL
  have hw : binSV .add (.int .i64 (i : Int)) (.int .i64 1) = some (.int .i64 ((i + 1 : Nat) : Int)) := by
    simp only [binSV, if_true]
    rw [show IntKind.i64.wrap ((i : Int) + 1) = ((i + 1 : Nat) : Int) from by rw [IntKind.wrap_i64]; omega]
  have hlss : binSV .lss (.int .i64 (i : Int)) (.int .i64 (xs.length : Int)) = some (.bool true) := by
    simp only [binSV, if_true, show (i : Int) < (xs.length : Int) from by omega, decide_true]
  unfold memBody memBox
  simp only [memLab_of hf, List.headD_cons]
  have y0 : binSV .add (.str f.label) (.str [58]) = some (.str (f.label ++ [58])) := addM (by simp; omega)
  generalize f.label ++ [58] = LC at *
  generalize leftS LC 15 = A at *
  generalize rightS (decS n) 8 = B at *
  generalize decS n = D at *
  have y1 : binSV .add (.str A) (.str [32]) = some (.str (A ++ [32])) := addM (by simp; omega)
  have y2 : binSV .add (.str (A ++ [32])) (.str B) = some (.str (A ++ [32] ++ B)) := addM (by rw [List.length_append]; simp; omega)
  have y3 : binSV .add (.str out) (.str (A ++ [32] ++ B)) = some (.str (out ++ (A ++ [32] ++ B))) := addM (by simp only [List.length_append, List.length_cons, List.length_nil]; omega)
  cases hpg : memPg f.name with
  | true =>
    rw [hpg] at e30
    have y4 : binSV .add (.str (out ++ (A ++ [32] ++ B))) (.str [10]) = some (.str (out ++ (A ++ [32] ++ B) ++ [10])) := addM (by simp only [List.length_append, List.length_cons, List.length_nil]; omega)
    rw [show out ++ (A ++ 32 :: (B ++ if true = true then [] else [32, 107, 66]) ++ [10]) = out ++ (A ++ [32] ++ B) ++ [10] from by simp]
    generalize out ++ (A ++ [32] ++ B) ++ [10] = Z4 at *
    generalize out ++ (A ++ [32] ++ B) = Z3 at *
    generalize A ++ [32] ++ B = Z2 at *
    generalize A ++ [32] = Z1 at *
    generalize f.label = fl at *
    generalize f.name = fn at *
    simp [-binSV, b4011_0, st4011, hlss, hlt, hc, pL, e27, y0, h44, e44, y1, h45, e45, pR, e46, y2, y3, pP, e30, y4, hw]
  | false =>
    rw [hpg] at e30
    have y5 : binSV .add (.str (out ++ (A ++ [32] ++ B))) (.str [32, 107, 66]) = some (.str (out ++ (A ++ [32] ++ B) ++ [32, 107, 66])) := addM (by simp only [List.length_append, List.length_cons, List.length_nil]; omega)
    have y4 : binSV .add (.str (out ++ (A ++ [32] ++ B) ++ [32, 107, 66])) (.str [10]) = some (.str (out ++ (A ++ [32] ++ B) ++ [32, 107, 66] ++ [10])) := addM (by simp only [List.length_append, List.length_cons, List.length_nil]; omega)
    rw [show out ++ (A ++ 32 :: (B ++ if false = true then [] else [32, 107, 66]) ++ [10]) = out ++ (A ++ [32] ++ B) ++ [32, 107, 66] ++ [10] from by simp]
    generalize out ++ (A ++ [32] ++ B) ++ [32, 107, 66] ++ [10] = Z4 at *
    generalize out ++ (A ++ [32] ++ B) ++ [32, 107, 66] = Z5 at *
    generalize out ++ (A ++ [32] ++ B) = Z3 at *
    generalize A ++ [32] ++ B = Z2 at *
    generalize A ++ [32] = Z1 at *
    generalize f.label = fl at *
    generalize f.name = fn at *
    simp [-binSV, b4011_0, st4011, hlss, hlt, hc, pL, e27, y0, h44, e44, y1, h45, e45, pR, e46, y2, y3, pP, e30, y5, y4, hw]

theorem memBody_len {f : MemF} (hf : f ∈ memTab) {n : Nat} (hn : n < 9007199254740992) : (memBody ⟨f.name, [n], []⟩ ++ [10]).length ≤ 100 := by
  obtain ⟨_, _, l20, _⟩ := memTab_words f hf
  have d20 := decS_len20 (n := n) (by omega)
  have lL := leftS_len (f.label ++ [58]) 15
  have lR := rightS_len (decS n) 8
  rw [List.length_append] at lL
  unfold memBody
  simp only [memLab_of hf, List.headD_cons, List.length_append, List.length_cons, List.length_nil] at *
  split <;> simp only [List.length_cons, List.length_nil] <;> omega

theorem loop4011 (E : Env) (cf : CallF) (m : Nat) (h27 : Has E 27 S4027) (h30 : Has E 30 S4030) (h44 : E.pure 26 = some F44) (h45 : E.pure 29 = some F45) (h46 : Has E 28 S46) (xs : List SV) (hxl : xs.length < 100000000) :
    ∀ (rest : List RowD) (pre : List SV) (out : List UInt8) (bx : List Box) (i k : Nat), xs = pre ++ rowsSV rest → i = pre.length → (∀ r ∈ rest, memOk1 r = true) → out.length + rest.length * 100 < 1000000000000000000 → rest.length < k →
      ∃ bx', roundsA (evCA E cf m b4011_0) k (st4011 xs out i bx) = some (.exit 0, { nt := 41, tm := [(4, .sv (.str (out ++ memText rest)))], lz := none, bx := bx', df := [] }) := by
  intro rest
  induction rest with
  | nil =>
    intro pre out bx i k hsp hi _ _ hk
    obtain ⟨k, rfl⟩ : ∃ k', k = k' + 1 := ⟨k - 1, by omega⟩
    have hlt : ¬ (i < xs.length) := by rw [hsp, hi]; simp [rowsSV]
    refine ⟨bx, roundsA_out ?_ (by simp)⟩
    simp [st4011, b4011_0, hlt, memText]
  | cons r rest ih =>
    intro pre out bx i k hsp hi hr ho hk
    obtain ⟨k, rfl⟩ : ∃ k', k = k' + 1 := ⟨k - 1, by omega⟩
    have hlt : i < xs.length := by rw [hsp, hi]; simp [rowsSV]
    obtain ⟨f, n, hf, rfl, hn⟩ := memOk1_spec (hr r (by simp))
    have hlen := memBody_len hf hn
    have hc : ∀ h : i < xs.length, xs[i]'h = .agg [.str f.name, .sl [.int .u64 (n : Int)], .sl []] := by subst hi; subst hsp; simp [rowsSV, RowD.sv, u64s, strs]
    simp only [List.length_cons, Nat.add_mul, Nat.one_mul] at ho
    have hst := step4011 E cf m h27 h30 h44 h45 h46 xs out (by omega) f hf n hn i hlt (by omega) hc bx
    obtain ⟨bx', he⟩ := ih (pre ++ [RowD.sv ⟨f.name, [n], []⟩]) (out ++ (memBody ⟨f.name, [n], []⟩ ++ [10])) (bx ++ [memBox f.name [.int .u64 (n : Int)] []]) (i + 1) k (by rw [hsp]; simp [rowsSV]) (by simp [hi]) (fun q hq => hr q (by simp [hq])) (by rw [List.length_append]; omega) (by simp at hk; omega)
    refine ⟨bx', ?_⟩
    rw [roundsA_step hst, he]
    simp [memText]

def S4011 (F : List SV → Option AV) : Prop := SPrintG memOk memText F

theorem ev4011 (E : Env) (h : E.code 11 = some c4011) (h25 : Has E 25 S4025) (h27 : Has E 27 S4027) (h30 : Has E 30 S4030) (h44 : E.pure 26 = some F44) (h45 : E.pure 29 = some F45) (h46 : Has E 28 S46) : S4011 (autoF E 11) := by
  obtain ⟨F, hp, hF⟩ := h25
  intro l hl
  have hF1 := hF l hl
  have hrl : (rowsSV l).length = l.length := by simp [rowsSV]
  refine autoA_sv (n := l.length + 1) ?_ rfl
  unfold evPA
  simp only [h]
  cases hv : memOk l with
  | false =>
    rw [hv] at hF1
    rw [if_neg (by simp)]
    generalize rowsSV l = R at *
    simp [c4011, hp, hF1]
  | true =>
    rw [hv] at hF1
    rw [if_pos rfl]
    have hv' := hv
    unfold memOk at hv'
    rw [Bool.and_eq_true, List.all_eq_true] at hv'
    obtain ⟨bx', he⟩ := loop4011 E (evF E (l.length + 1)) (l.length + 1) h27 h30 h44 h45 h46 (rowsSV l) (by have := hl.1; omega) l [] [] [] 0 (l.length + 1) rfl rfl hv'.1 (by have := hl.1; simp; omega) (by omega)
    simp only [st4011, Int.ofNat_zero, Int.natCast_zero, List.nil_append] at he
    generalize rowsSV l = R at *
    generalize memText l = TT at *
    simp [c4011, hp, hF1, he]

end Go.Ev
