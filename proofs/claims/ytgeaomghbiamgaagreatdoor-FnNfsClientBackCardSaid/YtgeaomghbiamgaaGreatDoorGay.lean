/- NFS: what is fine, what is written, the trees (plain; lines printed by a program of this work). -/
/- NFS: the lines of what is written (plain). -/
/- NFS: the reference: groups found, rows found, the check, the printing. -/
/- NFS: the reference: the check and the printing. -/
/- NFS: the reference: the printing. -/
/- Softirqs: the program's tree. -/
/- NFS: the server: names, the parsers of lines, the trees of records (lines printed by a program of this work). -/
import Derived.Test.YtgeaomghbiamgaaGreatDoorGas
import Derived.Test.YtgeaomghbiamgaaGreatDoorGat
import Derived.Test.YtgeaomghbiamgaaGreatDoorGan
import Derived.Test.YtgeaomghbiamgaaGreatDoorGar
import Derived.Test.YtgeaomghbiamgaaGreatDoorGai
set_option linter.unusedSimpArgs false
set_option linter.unusedVariables false
namespace Go.Ev
open Go.Proofs

/-- A group of a text: its label, the name of its record, the names of its fields. -/
structure Grp where
  label : List UInt8
  name : List UInt8
  fields : List (List UInt8)

def Grp.sv (g : Grp) : SV := .agg [.str g.label, .str g.name, .sl (strs g.fields)]

def nf_v2 : List (List UInt8) := [[78, 117, 108, 108],
  [71, 101, 116, 65, 116, 116, 114],
  [83, 101, 116, 65, 116, 116, 114],
  [82, 111, 111, 116],
  [76, 111, 111, 107, 117, 112],
  [82, 101, 97, 100, 76, 105, 110, 107],
  [82, 101, 97, 100],
  [87, 114, 67, 97, 99, 104, 101],
  [87, 114, 105, 116, 101],
  [67, 114, 101, 97, 116, 101],
  [82, 101, 109, 111, 118, 101],
  [82, 101, 110, 97, 109, 101],
  [76, 105, 110, 107],
  [83, 121, 109, 76, 105, 110, 107],
  [77, 107, 68, 105, 114],
  [82, 109, 68, 105, 114],
  [82, 101, 97, 100, 68, 105, 114],
  [70, 115, 83, 116, 97, 116]]

def nf_v3 : List (List UInt8) := [[78, 117, 108, 108],
  [71, 101, 116, 65, 116, 116, 114],
  [83, 101, 116, 65, 116, 116, 114],
  [76, 111, 111, 107, 117, 112],
  [65, 99, 99, 101, 115, 115],
  [82, 101, 97, 100, 76, 105, 110, 107],
  [82, 101, 97, 100],
  [87, 114, 105, 116, 101],
  [67, 114, 101, 97, 116, 101],
  [77, 107, 68, 105, 114],
  [83, 121, 109, 76, 105, 110, 107],
  [77, 107, 78, 111, 100],
  [82, 101, 109, 111, 118, 101],
  [82, 109, 68, 105, 114],
  [82, 101, 110, 97, 109, 101],
  [76, 105, 110, 107],
  [82, 101, 97, 100, 68, 105, 114],
  [82, 101, 97, 100, 68, 105, 114, 80, 108, 117, 115],
  [70, 115, 83, 116, 97, 116],
  [70, 115, 73, 110, 102, 111],
  [80, 97, 116, 104, 67, 111, 110, 102],
  [67, 111, 109, 109, 105, 116]]

def nf_v4Client : List (List UInt8) := [[78, 117, 108, 108],
  [82, 101, 97, 100],
  [87, 114, 105, 116, 101],
  [67, 111, 109, 109, 105, 116],
  [79, 112, 101, 110],
  [79, 112, 101, 110, 67, 111, 110, 102, 105, 114, 109],
  [79, 112, 101, 110, 78, 111, 97, 116, 116, 114],
  [79, 112, 101, 110, 68, 111, 119, 110, 103, 114, 97, 100, 101],
  [67, 108, 111, 115, 101],
  [83, 101, 116, 97, 116, 116, 114],
  [70, 115, 73, 110, 102, 111],
  [82, 101, 110, 101, 119],
  [83, 101, 116, 67, 108, 105, 101, 110, 116, 73, 68],
  [83, 101, 116, 67, 108, 105, 101, 110, 116, 73, 68, 67, 111, 110, 102, 105, 114, 109],
  [76, 111, 99, 107],
  [76, 111, 99, 107, 116],
  [76, 111, 99, 107, 117],
  [65, 99, 99, 101, 115, 115],
  [71, 101, 116, 97, 116, 116, 114],
  [76, 111, 111, 107, 117, 112],
  [76, 111, 111, 107, 117, 112, 82, 111, 111, 116],
  [82, 101, 109, 111, 118, 101],
  [82, 101, 110, 97, 109, 101],
  [76, 105, 110, 107],
  [83, 121, 109, 108, 105, 110, 107],
  [67, 114, 101, 97, 116, 101],
  [80, 97, 116, 104, 99, 111, 110, 102],
  [83, 116, 97, 116, 70, 115],
  [82, 101, 97, 100, 76, 105, 110, 107],
  [82, 101, 97, 100, 68, 105, 114],
  [83, 101, 114, 118, 101, 114, 67, 97, 112, 115],
  [68, 101, 108, 101, 103, 82, 101, 116, 117, 114, 110],
  [71, 101, 116, 65, 67, 76],
  [83, 101, 116, 65, 67, 76],
  [70, 115, 76, 111, 99, 97, 116, 105, 111, 110, 115],
  [82, 101, 108, 101, 97, 115, 101, 76, 111, 99, 107, 111, 119, 110, 101, 114],
  [83, 101, 99, 105, 110, 102, 111],
  [70, 115, 105, 100, 80, 114, 101, 115, 101, 110, 116],
  [69, 120, 99, 104, 97, 110, 103, 101, 73, 68],
  [67, 114, 101, 97, 116, 101, 83, 101, 115, 115, 105, 111, 110],
  [68, 101, 115, 116, 114, 111, 121, 83, 101, 115, 115, 105, 111, 110],
  [83, 101, 113, 117, 101, 110, 99, 101],
  [71, 101, 116, 76, 101, 97, 115, 101, 84, 105, 109, 101],
  [82, 101, 99, 108, 97, 105, 109, 67, 111, 109, 112, 108, 101, 116, 101],
  [76, 97, 121, 111, 117, 116, 71, 101, 116],
  [71, 101, 116, 68, 101, 118, 105, 99, 101, 73, 110, 102, 111],
  [76, 97, 121, 111, 117, 116, 67, 111, 109, 109, 105, 116],
  [76, 97, 121, 111, 117, 116, 82, 101, 116, 117, 114, 110],
  [83, 101, 99, 105, 110, 102, 111, 78, 111, 78, 97, 109, 101],
  [84, 101, 115, 116, 83, 116, 97, 116, 101, 73, 68],
  [70, 114, 101, 101, 83, 116, 97, 116, 101, 73, 68],
  [71, 101, 116, 68, 101, 118, 105, 99, 101, 76, 105, 115, 116],
  [66, 105, 110, 100, 67, 111, 110, 110, 84, 111, 83, 101, 115, 115, 105, 111, 110],
  [68, 101, 115, 116, 114, 111, 121, 67, 108, 105, 101, 110, 116, 73, 68],
  [83, 101, 101, 107],
  [65, 108, 108, 111, 99, 97, 116, 101],
  [68, 101, 65, 108, 108, 111, 99, 97, 116, 101],
  [76, 97, 121, 111, 117, 116, 83, 116, 97, 116, 115],
  [67, 108, 111, 110, 101]]

def nfCli : List Grp := [⟨[110, 101, 116], [78, 101, 116, 119, 111, 114, 107], [[78, 101, 116, 67, 111, 117, 110, 116], [85, 68, 80, 67, 111, 117, 110, 116], [84, 67, 80, 67, 111, 117, 110, 116], [84, 67, 80, 67, 111, 110, 110, 101, 99, 116]]⟩,
  ⟨[114, 112, 99], [67, 108, 105, 101, 110, 116, 82, 80, 67], [[82, 80, 67, 67, 111, 117, 110, 116], [82, 101, 116, 114, 97, 110, 115, 109, 105, 115, 115, 105, 111, 110, 115], [65, 117, 116, 104, 82, 101, 102, 114, 101, 115, 104, 101, 115]]⟩,
  ⟨[112, 114, 111, 99, 50], [86, 50, 83, 116, 97, 116, 115], nf_v2⟩,
  ⟨[112, 114, 111, 99, 51], [86, 51, 83, 116, 97, 116, 115], nf_v3⟩,
  ⟨[112, 114, 111, 99, 52], [67, 108, 105, 101, 110, 116, 86, 52, 83, 116, 97, 116, 115], nf_v4Client⟩]

/-- The group of a label. -/
def grpOf : List Grp → List UInt8 → Option Grp
  | [], _ => none
  | g :: l, s => if g.label = s then some g else grpOf l s

def sRa : List UInt8 := [114, 97]
def sOps : List UInt8 := [112, 114, 111, 99, 52, 111, 112, 115]
def sWd : List UInt8 := [119, 100, 101, 108, 101, 103, 95, 103, 101, 116, 97, 116, 116, 114]
def sRc : List UInt8 := [114, 99]
def sTh : List UInt8 := [116, 104]
def sProc : List UInt8 := [112, 114, 111, 99]
def sP4 : List UInt8 := [112, 114, 111, 99, 52]

/-- How many numbers a line has; none: there is no such line. -/
def nfWant (gs : List Grp) (s : List UInt8) (k : Nat) : Option Nat :=
  if s = sWd then (if (grpOf gs sRc).isSome = true then some 1 else none)
  else match grpOf gs s with
    | some g => some (if s = sRa then 12 else if s = sOps then max g.fields.length k else g.fields.length)
    | none => none

def nfOk1 (gs : List Grp) (r : RowD) : Bool := decide (nfWant gs r.name r.N.length = some r.N.length) && decide (r.S.length = 0)

def nfOk (gs : List Grp) (rs : List RowD) : Bool := rs.all (nfOk1 gs) && distP [] (rs.map RowD.name)

def isProc (s : List UInt8) : Bool := decide (4 ≤ s.length) && (s.take 4 == sProc)

/-- The times of the threads. -/
def thTail : List UInt8 := (List.replicate 10 [32, 48, 46, 48, 48, 48]).flatten

def nfBody (r : RowD) : List UInt8 := ((r.name ++ (if isProc r.name = true then [32] ++ decS r.N.length else [])) ++ ([32] ++ joinS [32] (r.N.map decS))) ++ (if r.name = sTh then thTail else [])

def nfText (rs : List RowD) : List UInt8 := (rs.map fun r => nfBody r ++ [10]).flatten

/-- The numbers of the line of a label; none without the line. -/
def numsOf (rs : List RowD) (s : List UInt8) : List Nat := match rs with
  | [] => []
  | r :: l => if r.name = s then r.N else numsOf l s

def uNode (nm : List UInt8) (n : Nat) : SV := nodeV nm 3 false 0 (n : Int) 0 [] []

def fillK : List (List UInt8) → List Nat → List SV
  | [], _ => []
  | f :: fs, [] => uNode f 0 :: fillK fs []
  | f :: fs, n :: ns => uNode f n :: fillK fs ns

def fillN (nm : List UInt8) (fs : List (List UInt8)) (ns : List Nat) : SV := nodeV nm 8 false 0 0 0 [] (fillK fs ns)

/-- Two numbers of a client's line stand in the other order. -/
def sw45 (ns : List Nat) : List Nat := if 45 < ns.length then (ns.set 44 (ns.getD 45 0)).set 45 (ns.getD 44 0) else ns

def cliKid (rs : List RowD) (g : Grp) : SV := fillN g.name g.fields (if g.label = sP4 then sw45 (numsOf rs g.label) else numsOf rs g.label)

def cliTree (rs : List RowD) : SV := nodeV [] 8 false 0 0 0 [] (nfCli.map (cliKid rs))

end Go.Ev

set_option linter.unusedSimpArgs false
set_option linter.unusedVariables false
namespace Go.Ev
open Go.Proofs

/-- Words, each with a blank ahead. -/
def colsW (ws : List (List UInt8)) : List UInt8 := (ws.map fun w => [32] ++ w).flatten

theorem colsW_cons (w : List UInt8) (ws : List (List UInt8)) : colsW (w :: ws) = [32] ++ (w ++ colsW ws) := by simp [colsW]
theorem colsW_app (a b : List (List UInt8)) : colsW (a ++ b) = colsW a ++ colsW b := by simp [colsW]

theorem colsW_join : ∀ {ws : List (List UInt8)}, ws ≠ [] → [32] ++ joinS [32] ws = colsW ws
  | [], h => absurd rfl h
  | w :: ws, _ => by simp [joinS, colsW]

def goodW (w : List UInt8) : Prop := w ≠ [] ∧ ∀ c ∈ w, wordC c = true

theorem colsW_fields : ∀ (ws : List (List UInt8)) (d : List UInt8), goodW d → (∀ w ∈ ws, goodW w) → fieldG [] (d ++ colsW ws) = d :: ws
  | [], d, hd, _ => by
    rw [show colsW [] = [] from rfl, List.append_nil]
    exact fieldG_last hd.1 (fun c hc => (wordC_blank (hd.2 c hc)).1)
  | w :: ws, d, hd, hw => by
    rw [colsW_cons, fieldG_word1 ⟨hd.1, fun c hc => (wordC_blank (hd.2 c hc)).1⟩, colsW_fields ws w (hw w (by simp)) (fun x hx => hw x (by simp [hx]))]

theorem colsW_chars {ws : List (List UInt8)} (h : ∀ w ∈ ws, goodW w) : ∀ c ∈ colsW ws, chP c := by
  intro c hc
  unfold colsW at hc
  obtain ⟨x, hx, hc⟩ := List.mem_flatten.1 hc
  obtain ⟨w, hw, rfl⟩ := List.mem_map.1 hx
  rcases List.mem_append.1 hc with hc | hc
  · obtain rfl := List.mem_singleton.1 hc; exact ⟨by decide, by decide⟩
  · exact plain_word ((h w hw).2 c hc)

theorem goodW_dec (n : Nat) : goodW (decS n) := by
  obtain ⟨_, g2, g3⟩ := decS_dig n
  refine ⟨g3, fun c hc => ?_⟩
  have := digC_iff.1 (g2 c hc)
  unfold wordC
  simp only [Bool.and_eq_true, decide_eq_true_eq]
  omega

def nought3 : List UInt8 := [48, 46, 48, 48, 48]

/-- The words of a line behind its label. -/
def nfWords (r : RowD) : List (List UInt8) := (if isProc r.name = true then [decS r.N.length] else []) ++ (r.N.map decS ++ (if r.name = sTh then List.replicate 10 nought3 else []))

theorem nfBody_eq {r : RowD} (h : r.N ≠ []) : nfBody r = r.name ++ colsW (nfWords r) := by
  unfold nfBody nfWords
  rw [colsW_join (by simpa using h), colsW_app, colsW_app]
  have e1 : (if isProc r.name = true then [32] ++ decS r.N.length else []) = colsW (if isProc r.name = true then [decS r.N.length] else []) := by
    split <;> simp [colsW]
  have e2 : (if r.name = sTh then thTail else []) = colsW (if r.name = sTh then List.replicate 10 nought3 else []) := by
    split
    · rfl
    · rfl
  rw [e1, e2]
  simp only [List.append_assoc]

theorem nfWords_good (r : RowD) : ∀ w ∈ nfWords r, goodW w := by
  intro w hw
  unfold nfWords at hw
  rcases List.mem_append.1 hw with hw | hw
  · split at hw
    · obtain rfl := List.mem_singleton.1 hw; exact goodW_dec _
    · cases hw
  · rcases List.mem_append.1 hw with hw | hw
    · obtain ⟨n, _, rfl⟩ := List.mem_map.1 hw; exact goodW_dec _
    · split at hw
      · rw [(List.mem_replicate.1 hw).2]; exact ⟨by decide, by decide⟩
      · cases hw

/-- The labels of groups are words. -/
def labsOk (gs : List Grp) : Prop := ∀ g ∈ gs, goodW g.label ∧ g.label ≠ sWd ∧ 0 < g.fields.length + (if g.label = sRa then 1 else 0)

theorem grpOf_mem : ∀ {gs : List Grp} {s : List UInt8} {g : Grp}, grpOf gs s = some g → g ∈ gs ∧ g.label = s
  | [], _, _, h => by cases h
  | x :: gs, s, g, h => by
    unfold grpOf at h
    split at h
    · simp only [Option.some.injEq] at h
      subst h
      exact ⟨by simp, by assumption⟩
    · obtain ⟨h1, h2⟩ := grpOf_mem h
      exact ⟨by simp [h1], h2⟩

theorem nfOk1_want {gs : List Grp} {r : RowD} (h : nfOk1 gs r = true) : nfWant gs r.name r.N.length = some r.N.length ∧ r.S = [] := by
  unfold nfOk1 at h
  simp only [Bool.and_eq_true, decide_eq_true_eq] at h
  exact ⟨h.1, List.eq_nil_of_length_eq_zero h.2⟩

theorem nfOk1_name {gs : List Grp} (hg : labsOk gs) {r : RowD} (h : nfOk1 gs r = true) : goodW r.name ∧ r.N ≠ [] := by
  obtain ⟨h1, _⟩ := nfOk1_want h
  unfold nfWant at h1
  split at h1
  · rename_i hs
    split at h1 <;> simp only [Option.some.injEq, reduceCtorEq] at h1
    refine ⟨by rw [hs]; exact ⟨by decide, by decide⟩, fun hn => ?_⟩
    rw [hn] at h1; simp at h1
  · split at h1 <;> simp only [Option.some.injEq, reduceCtorEq] at h1
    rename_i g hgo
    obtain ⟨m1, m2⟩ := grpOf_mem hgo
    obtain ⟨k1, _, k3⟩ := hg g m1
    refine ⟨by rw [← m2]; exact k1, fun hn => ?_⟩
    rw [hn] at h1
    simp only [List.length_nil] at h1
    rw [m2] at k3
    split at h1
    · omega
    · rename_i hra
      rw [if_neg hra] at k3
      split at h1 <;> omega

theorem nfCli_labs : labsOk nfCli := by
  intro g hg
  simp only [nfCli, List.mem_cons, List.not_mem_nil, or_false] at hg
  rcases hg with rfl | rfl | rfl | rfl | rfl <;> exact ⟨⟨by decide, by decide⟩, by decide, by decide⟩

theorem nfBody_fields {gs : List Grp} (hg : labsOk gs) {r : RowD} (h : nfOk1 gs r = true) : fieldsL (nfBody r) = r.name :: nfWords r := by
  obtain ⟨h1, h2⟩ := nfOk1_name hg h
  rw [fieldsL_eq, nfBody_eq h2, colsW_fields _ _ h1 (nfWords_good r)]

theorem nfBody_chars {gs : List Grp} (hg : labsOk gs) {r : RowD} (h : nfOk1 gs r = true) : ∀ c ∈ nfBody r, chP c := by
  obtain ⟨h1, h2⟩ := nfOk1_name hg h
  rw [nfBody_eq h2]
  exact chP_app (fun c hc => plain_word (h1.2 c hc)) (colsW_chars (nfWords_good r))

theorem nfText_cons (r : RowD) (rs : List RowD) : nfText (r :: rs) = nfBody r ++ 10 :: nfText rs := by simp [nfText]

/-- The words that the program reads of a line. -/
theorem nfBody_words {gs : List Grp} (hg : labsOk gs) {r : RowD} (h : nfOk1 gs r = true) (hl : (nfBody r).length < 1000000) : F127 [.str (nfBody r)] = some (.sv (.sl (strs (r.name :: nfWords r)))) := by
  have hc := nfBody_chars hg h
  have e := F127_eq (nfBody r) (by omega) (fun c hc' => (plain_lt (hc c hc').2).1)
  rw [words_fields (fun c hc' => ⟨(hc c hc').2, (hc c hc').1⟩), nfBody_fields hg h] at e
  exact e

end Go.Ev

set_option linter.unusedSimpArgs false
set_option linter.unusedVariables false
namespace Go.Ev
open Go.Proofs

def grpsSV (gs : List Grp) : List SV := gs.map Grp.sv

def gCell (g : Option Grp) : SV := match g with
  | some g => g.sv
  | none => .agg [.str [], .str [], .sl []]

def S3147 (F : List SV → Option AV) : Prop := ∀ (gs : List Grp) (s : List UInt8), gs.length < 1000 → F [.sl (grpsSV gs), .str s] = some (.sv (.tup [gCell (grpOf gs s), .bool (grpOf gs s).isSome]))

def st3147 (xs : List SV) (s : List UInt8) (i : Nat) (z : Box) (bx : List Box) : SA := { nt := 21, tm := [(10, .sv (.int .i64 i)), (9, .sv (.int .i64 xs.length)), (8, .sv (.sl xs)), (4, .ptr 0 0), (1, .sv (.str s))], lz := none, bx := z :: bx, df := [] }

def zG : Box := .live [.sv (.str []), .sv (.str []), .sv .nilS]

set_option maxHeartbeats 4000000 in
theorem step3147 (E : Env) (cf : CallF) (m : Nat) (xs : List SV) (s : List UInt8) (i : Nat) (hlt : i < xs.length) (hxl : xs.length < 1000000) (bx : List Box) (l n : List UInt8) (fs : SV) (hfs : ∃ q, fs = .sl q) (hc : ∀ h : i < xs.length, xs[i]'h = .agg [.str l, .str n, fs]) :
    evCA E cf m b3147_0 (st3147 xs s i zG bx) = if l = s then some (.ret, { nt := 21, tm := [(5, .sv (.bool true)), (4, .ptr 0 0)], lz := none, bx := .live [.sv (.str l), .sv (.str n), .sv fs] :: (bx ++ [.live [.sv (.str l), .sv (.str n), .sv fs]]), df := [] })
      else some (.normal, st3147 xs s (i + 1) zG (bx ++ [.live [.sv (.str l), .sv (.str n), .sv fs]])) := by
  obtain ⟨q, rfl⟩ := hfs
  have hw : IntKind.i64.wrap ((i : Int) + 1) = ((i + 1 : Nat) : Int) := by rw [IntKind.wrap_i64]; omega
  by_cases h : l = s
  · subst h
    simp [st3147, zG, b3147_0, hlt, hc]
  · have hb : (l == s) = false := by simpa using h
    simp [st3147, zG, b3147_0, hlt, hc, h, hb, hw]

theorem loop3147 (E : Env) (cf : CallF) (m : Nat) (xs : List SV) (s : List UInt8) (hxl : xs.length < 1000000) :
    ∀ (rest : List Grp) (pre : List SV) (bx : List Box) (i k : Nat), xs = pre ++ grpsSV rest → i = pre.length → rest.length < k →
      ∃ bx', roundsA (evCA E cf m b3147_0) k (st3147 xs s i zG bx) = match grpOf rest s with
        | some g => some (.ret, { nt := 21, tm := [(5, .sv (.bool true)), (4, .ptr 0 0)], lz := none, bx := .live [.sv (.str g.label), .sv (.str g.name), .sv (.sl (strs g.fields))] :: bx', df := [] })
        | none => some (.exit 0, { nt := 21, tm := [(4, .ptr 0 0)], lz := none, bx := zG :: bx', df := [] }) := by
  intro rest
  induction rest with
  | nil =>
    intro pre bx i k hsp hi hk
    obtain ⟨k, rfl⟩ : ∃ k', k = k' + 1 := ⟨k - 1, by omega⟩
    have hlt : ¬ (i < xs.length) := by rw [hsp, hi]; simp [grpsSV]
    refine ⟨bx, roundsA_out ?_ (by simp [grpOf])⟩
    simp [st3147, b3147_0, hlt, grpOf]
  | cons g rest ih =>
    intro pre bx i k hsp hi hk
    obtain ⟨k, rfl⟩ : ∃ k', k = k' + 1 := ⟨k - 1, by omega⟩
    have hlt : i < xs.length := by rw [hsp, hi]; simp [grpsSV]
    have hc : ∀ h : i < xs.length, xs[i]'h = .agg [.str g.label, .str g.name, .sl (strs g.fields)] := by subst hi; subst hsp; simp [grpsSV, Grp.sv]
    have hst := step3147 E cf m xs s i hlt hxl bx g.label g.name (.sl (strs g.fields)) ⟨_, rfl⟩ hc
    unfold grpOf
    by_cases h : g.label = s
    · rw [if_pos h] at hst
      rw [if_pos h]
      exact ⟨_, roundsA_out hst (by simp)⟩
    · rw [if_neg h] at hst
      rw [if_neg h]
      obtain ⟨bx', he⟩ := ih (pre ++ [g.sv]) (bx ++ [.live [.sv (.str g.label), .sv (.str g.name), .sv (.sl (strs g.fields))]]) (i + 1) k (by rw [hsp]; simp [grpsSV]) (by simp [hi]) (by simp at hk; omega)
      exact ⟨bx', by rw [roundsA_step hst, he]⟩

theorem ev3147 (E : Env) (h : E.code 65 = some c3147) : S3147 (autoF E 65) := by
  intro gs s hg
  have hgl : (grpsSV gs).length = gs.length := by simp [grpsSV]
  obtain ⟨bx', hl⟩ := loop3147 E (evF E (gs.length + 1)) (gs.length + 1) (grpsSV gs) s (by omega) gs [] [] 0 (gs.length + 1) rfl rfl (by omega)
  refine autoA_sv (n := gs.length + 1) ?_ rfl
  unfold evPA
  simp only [h]
  simp only [st3147, zG, Int.ofNat_zero, Int.natCast_zero] at hl
  generalize grpsSV gs = xs at *
  cases hv : grpOf gs s with
  | none => rw [hv] at hl; simp [c3147, hl, gCell]
  | some g =>
    rw [hv] at hl
    simp only [gCell, Grp.sv]
    generalize hfs : strs g.fields = fs at *
    simp [c3147, hl, hfs]

/-! ### Rows -/

def rowOf : List RowD → List UInt8 → Option RowD
  | [], _ => none
  | r :: l, s => if r.name = s then some r else rowOf l s

def rCell (r : Option RowD) : SV := match r with
  | some r => r.sv
  | none => .agg [.str [], .sl [], .sl []]

theorem numsOf_row : ∀ (rs : List RowD) (s : List UInt8), numsOf rs s = match rowOf rs s with | some r => r.N | none => []
  | [], _ => rfl
  | r :: rs, s => by
    unfold numsOf rowOf
    split
    · rfl
    · exact numsOf_row rs s

def S3087 (F : List SV → Option AV) : Prop := ∀ (rs : List RowD) (s : List UInt8), rs.length < 100000000 → F [.sl (rowsSV rs), .str s] = some (.sv (.tup [rCell (rowOf rs s), .bool (rowOf rs s).isSome]))

def st3087 (xs : List SV) (s : List UInt8) (i : Nat) (z : Box) (bx : List Box) : SA := { nt := 21, tm := [(10, .sv (.int .i64 i)), (9, .sv (.int .i64 xs.length)), (8, .sv (.sl xs)), (4, .ptr 0 0), (1, .sv (.str s))], lz := none, bx := z :: bx, df := [] }

def zR : Box := .live [.sv (.str []), .sv .nilS, .sv .nilS]

set_option maxHeartbeats 4000000 in
theorem step3087 (E : Env) (cf : CallF) (m : Nat) (xs : List SV) (s : List UInt8) (i : Nat) (hlt : i < xs.length) (hxl : xs.length < 1000000000) (bx : List Box) (l : List UInt8) (n fs : List SV) (hc : ∀ h : i < xs.length, xs[i]'h = .agg [.str l, .sl n, .sl fs]) :
    evCA E cf m b3087_0 (st3087 xs s i zR bx) = if l = s then some (.ret, { nt := 21, tm := [(5, .sv (.bool true)), (4, .ptr 0 0)], lz := none, bx := .live [.sv (.str l), .sv (.sl n), .sv (.sl fs)] :: (bx ++ [.live [.sv (.str l), .sv (.sl n), .sv (.sl fs)]]), df := [] })
      else some (.normal, st3087 xs s (i + 1) zR (bx ++ [.live [.sv (.str l), .sv (.sl n), .sv (.sl fs)]])) := by
  have hw : IntKind.i64.wrap ((i : Int) + 1) = ((i + 1 : Nat) : Int) := by rw [IntKind.wrap_i64]; omega
  by_cases h : l = s
  · subst h
    simp [st3087, zR, b3087_0, hlt, hc]
  · have hb : (l == s) = false := by simpa using h
    simp [st3087, zR, b3087_0, hlt, hc, h, hb, hw]

theorem loop3087 (E : Env) (cf : CallF) (m : Nat) (xs : List SV) (s : List UInt8) (hxl : xs.length < 1000000000) :
    ∀ (rest : List RowD) (pre : List SV) (bx : List Box) (i k : Nat), xs = pre ++ rowsSV rest → i = pre.length → rest.length < k →
      ∃ bx', roundsA (evCA E cf m b3087_0) k (st3087 xs s i zR bx) = match rowOf rest s with
        | some r => some (.ret, { nt := 21, tm := [(5, .sv (.bool true)), (4, .ptr 0 0)], lz := none, bx := .live [.sv (.str r.name), .sv (.sl (u64s r.N)), .sv (.sl (strs r.S))] :: bx', df := [] })
        | none => some (.exit 0, { nt := 21, tm := [(4, .ptr 0 0)], lz := none, bx := zR :: bx', df := [] }) := by
  intro rest
  induction rest with
  | nil =>
    intro pre bx i k hsp hi hk
    obtain ⟨k, rfl⟩ : ∃ k', k = k' + 1 := ⟨k - 1, by omega⟩
    have hlt : ¬ (i < xs.length) := by rw [hsp, hi]; simp [rowsSV]
    refine ⟨bx, roundsA_out ?_ (by simp [rowOf])⟩
    simp [st3087, b3087_0, hlt, rowOf]
  | cons r rest ih =>
    intro pre bx i k hsp hi hk
    obtain ⟨k, rfl⟩ : ∃ k', k = k' + 1 := ⟨k - 1, by omega⟩
    have hlt : i < xs.length := by rw [hsp, hi]; simp [rowsSV]
    have hc : ∀ h : i < xs.length, xs[i]'h = .agg [.str r.name, .sl (u64s r.N), .sl (strs r.S)] := by subst hi; subst hsp; simp [rowsSV, RowD.sv]
    have hst := step3087 E cf m xs s i hlt hxl bx r.name (u64s r.N) (strs r.S) hc
    unfold rowOf
    by_cases h : r.name = s
    · rw [if_pos h] at hst
      rw [if_pos h]
      exact ⟨_, roundsA_out hst (by simp)⟩
    · rw [if_neg h] at hst
      rw [if_neg h]
      obtain ⟨bx', he⟩ := ih (pre ++ [r.sv]) (bx ++ [.live [.sv (.str r.name), .sv (.sl (u64s r.N)), .sv (.sl (strs r.S))]]) (i + 1) k (by rw [hsp]; simp [rowsSV]) (by simp [hi]) (by simp at hk; omega)
      exact ⟨bx', by rw [roundsA_step hst, he]⟩

theorem ev3087 (E : Env) (h : E.code 28 = some c3087) : S3087 (autoF E 28) := by
  intro rs s hg
  have hgl : (rowsSV rs).length = rs.length := by simp [rowsSV]
  obtain ⟨bx', hl⟩ := loop3087 E (evF E (rs.length + 1)) (rs.length + 1) (rowsSV rs) s (by omega) rs [] [] 0 (rs.length + 1) rfl rfl (by omega)
  refine autoA_sv (n := rs.length + 1) ?_ rfl
  unfold evPA
  simp only [h]
  simp only [st3087, zR, Int.ofNat_zero, Int.natCast_zero] at hl
  generalize rowsSV rs = xs at *
  cases hv : rowOf rs s with
  | none => rw [hv] at hl; simp [c3087, hl, rCell]
  | some r =>
    rw [hv] at hl
    simp only [rCell, RowD.sv]
    generalize hfs : strs r.S = fs at *
    generalize hns : u64s r.N = ns at *
    simp [c3087, hl, hfs, hns]

/-! ### A record of numbers -/

def S3088 (F : List SV → Option AV) : Prop := ∀ (nm : List UInt8) (fs : List (List UInt8)) (ns : List Nat), fs.length < 1000 → ns.length < 1000000000000 → F [.str nm, .sl (strs fs), .sl (u64s ns)] = some (.sv (fillN nm fs ns))

def st3088 (nm : List UInt8) (xs ns acc : List SV) (j : Nat) (z : Box) : SA := { nt := 36, tm := [(13, .sv (.int .i64 j)), (12, .sv (.int .i64 xs.length)), (11, .sv (.sl xs)), (7, accA 43 acc), (6, .ptr 0 0), (2, .sv (.sl ns)), (0, .sv (.str nm))], lz := none, bx := [z], df := [] }

set_option maxHeartbeats 4000000 in
theorem step3088 (E : Env) (cf : CallF) (m : Nat) (h35 : Has E 50 S35w) (nm : List UInt8) (xs ns acc : List SV) (ha : acc.length < 1000000) (j : Nat) (hlt : j < xs.length) (hxl : xs.length < 1000000) (z : Box) (f : List UInt8) (hc : ∀ h : j < xs.length, xs[j]'h = .str f) (n : Nat) (hnl : ns.length < 1000000000000)
    (hn : (j < ns.length ∧ ∀ h : j < ns.length, ns[j]'h = .int .u64 (n : Int)) ∨ (¬ j < ns.length ∧ n = 0)) :
    evCA E cf m b3088_0 (st3088 nm xs ns acc j z) = some (.normal, st3088 nm xs ns (acc ++ [uNode f n]) (j + 1) z) := by
  obtain ⟨FU, hpU, hU⟩ := h35
  have hU1 := hU f (n : Int)
  have hw : IntKind.i64.wrap ((j : Int) + 1) = ((j + 1 : Nat) : Int) := by rw [IntKind.wrap_i64]; omega
  have hl1 : (acc.length + 1) * 96 ≤ 140737488355328 := by omega
  have hl2 : acc.length + 1 ≤ 140737488355328 := by omega
  unfold uNode
  unfold nodeV at hU1 ⊢
  rcases hn with ⟨h1, h2⟩ | ⟨h1, rfl⟩
  · cases acc with
    | nil => simp [st3088, b3088_0, hlt, hc, h1, h2, hpU, hU1, hw, accA]
    | cons y ys =>
      simp only [List.length_cons] at hl1 hl2
      simp [st3088, b3088_0, hlt, hc, h1, h2, hpU, hU1, hw, accA, hl1, hl2]
  · rw [show ((0 : Nat) : Int) = 0 from rfl] at hU1 ⊢
    cases acc with
    | nil => simp [st3088, b3088_0, hlt, hc, h1, hpU, hU1, hw, accA]
    | cons y ys =>
      simp only [List.length_cons] at hl1 hl2
      simp [st3088, b3088_0, hlt, hc, h1, hpU, hU1, hw, accA, hl1, hl2]

theorem loop3088 (E : Env) (cf : CallF) (m : Nat) (h35 : Has E 50 S35w) (nm : List UInt8) (xs ns : List SV) (hxl : xs.length < 1000) (hnl : ns.length < 1000000000000) (z : Box) :
    ∀ (fs : List (List UInt8)) (pre : List SV) (rn : List Nat) (pn acc : List SV) (j k : Nat), xs = pre ++ strs fs → j = pre.length → ns = pn ++ u64s rn → (pn.length = j ∨ (rn = [] ∧ pn.length ≤ j)) → acc.length = j → fs.length < k →
      roundsA (evCA E cf m b3088_0) k (st3088 nm xs ns acc j z) = some (.exit 0, { nt := 36, tm := [(7, accA 43 (acc ++ fillK fs rn)), (6, .ptr 0 0), (0, .sv (.str nm))], lz := none, bx := [z], df := [] }) := by
  intro fs
  induction fs with
  | nil =>
    intro pre rn pn acc j k hsp hj _ _ _ hk
    obtain ⟨k, rfl⟩ : ∃ k', k = k' + 1 := ⟨k - 1, by omega⟩
    have hlt : ¬ (j < xs.length) := by rw [hsp, hj]; simp [strs]
    refine roundsA_out ?_ (by simp)
    simp [b3088_0, st3088, hlt, fillK]
  | cons f fs ih =>
    intro pre rn pn acc j k hsp hj hsn hpn hal hk
    obtain ⟨k, rfl⟩ : ∃ k', k = k' + 1 := ⟨k - 1, by omega⟩
    have hlt : j < xs.length := by rw [hsp, hj]; simp [strs]
    have hc : ∀ h : j < xs.length, xs[j]'h = .str f := by subst hj; subst hsp; simp [strs]
    match rn, hsn, hpn with
    | [], hsn, hpn =>
      have hno : ¬ j < ns.length := by
        rw [hsn]; simp only [u64s, List.map_nil, List.append_nil]
        rcases hpn with h | ⟨_, h⟩ <;> omega
      have hst := step3088 E cf m h35 nm xs ns acc (by omega) j hlt (by omega) z f hc 0 hnl (.inr ⟨hno, rfl⟩)
      have he := ih (pre ++ [.str f]) [] pn (acc ++ [uNode f 0]) (j + 1) k (by rw [hsp]; simp [strs]) (by simp [hj]) hsn (.inr ⟨rfl, by rcases hpn with h | ⟨_, h⟩ <;> omega⟩) (by simp [hal]) (by simp at hk; omega)
      rw [roundsA_step hst, he]
      simp [fillK]
    | n :: rn, hsn, hpn =>
      have hpl : pn.length = j := by
        rcases hpn with h | ⟨h, _⟩
        · exact h
        · cases h
      have hj1 : j < ns.length := by rw [hsn, ← hpl]; simp [u64s]
      have hg : ∀ h : j < ns.length, ns[j]'h = .int .u64 (n : Int) := by
        intro h
        have : ns[j]? = some (.int .u64 (n : Int)) := by rw [hsn, ← hpl]; simp [u64s]
        rw [List.getElem?_eq_getElem h] at this
        simpa using this
      have hst := step3088 E cf m h35 nm xs ns acc (by omega) j hlt (by omega) z f hc n hnl (.inl ⟨hj1, hg⟩)
      have he := ih (pre ++ [.str f]) rn (pn ++ [.int .u64 (n : Int)]) (acc ++ [uNode f n]) (j + 1) k (by rw [hsp]; simp [strs]) (by simp [hj]) (by rw [hsn]; simp [u64s]) (.inl (by simp [hpl])) (by simp [hal]) (by simp at hk; omega)
      rw [roundsA_step hst, he]
      simp [fillK]

theorem ev3088 (E : Env) (h : E.code 29 = some c3088) (h35 : Has E 50 S35w) (h33 : E.pure 30 = some F33) : S3088 (autoF E 29) := by
  intro nm fs ns hf hn
  have hfl : (strs fs).length = fs.length := strs_length fs
  have hnl : (u64s ns).length = ns.length := u64s_length ns
  have hl := loop3088 E (evF E (fs.length + 1)) (fs.length + 1) h35 nm (strs fs) (u64s ns) (by omega) (by omega) (.live [.sv (.str []), .sv (.int .i64 0), .sv (.bool false), .sv (.int .i64 0), .sv (.int .u64 0), .sv (.flt .f64 0), .sv (.str []), .sv .nilS]) fs [] ns [] [] 0 (fs.length + 1) rfl rfl rfl (.inl rfl) rfl (by omega)
  refine autoA_sv (n := fs.length + 1) ?_ rfl
  unfold evPA
  simp only [h]
  rw [List.nil_append] at hl
  simp only [st3088, accA, Int.ofNat_zero, Int.natCast_zero] at hl
  unfold fillN
  generalize fillK fs ns = K at *
  generalize strs fs = X at *
  generalize u64s ns = U at *
  cases K with
  | nil => simp only [accA] at hl; simp [c3088, hl, h33, F33, nodeV]
  | cons y ys => simp only [accA] at hl; simp [c3088, hl, h33, F33, nodeV]

end Go.Ev

set_option linter.unusedSimpArgs false
set_option linter.unusedVariables false
namespace Go.Ev
open Go.Proofs

def st3084 (xs gs : List SV) (i : Nat) (bx : List Box) : SA := { nt := 58, tm := [(14, .sv (.int .i64 i)), (13, .sv (.int .i64 xs.length)), (12, .sv (.sl xs)), (1, .sv (.sl gs)), (0, .sv (.sl xs))], lz := none, bx := bx, df := [] }
def bad3084 (bx : List Box) : SA := { nt := 58, tm := [(4, .sv (.bool false))], lz := none, bx := bx, df := [] }

theorem gCell_form (g : Option Grp) : ∃ a b X, gCell g = .agg [.str a, .str b, .sl X] ∧ X.length = (match g with | some g => g.fields.length | none => 0) := by
  cases g with
  | none => exact ⟨[], [], [], rfl, rfl⟩
  | some g => exact ⟨g.label, g.name, strs g.fields, rfl, strs_length _⟩

theorem sWd_ne : sWd ≠ sRa ∧ sWd ≠ sOps ∧ sOps ≠ sRa := by decide

set_option maxRecDepth 100000 in
set_option maxHeartbeats 16000000 in
theorem step3084 (E : Env) (cf : CallF) (m : Nat) (h47 : Has E 65 S3147) (h55 : E.pure 66 = some F55) (xs : List SV) (gs : List Grp) (hgl : gs.length < 1000) (hgf : ∀ g ∈ gs, g.fields.length < 1000) (r : RowD) (hf : r.fits3) (i : Nat) (hlt : i < xs.length) (hxl : xs.length < 1000000000)
    (hc : ∀ h : i < xs.length, xs[i]'h = .agg [.str r.name, .sl (u64s r.N), .sl (strs r.S)]) (bx : List Box) :
    ∃ bx', evCA E cf m b3084_0 (st3084 xs (grpsSV gs) i bx) = if nfOk1 gs r = true then some (.normal, st3084 xs (grpsSV gs) (i + 1) bx') else some (.ret, bad3084 bx') := by
  obtain ⟨F, hp, hF⟩ := h47
  obtain ⟨nm, N, S⟩ := r
  obtain ⟨f1, f2, f3, f4, f5⟩ := hf
  simp only at *
  have hw : IntKind.i64.wrap ((i : Int) + 1) = ((i + 1 : Nat) : Int) := by rw [IntKind.wrap_i64]; omega
  have hF1 := hF gs nm hgl
  have hF2 := hF gs sRc hgl
  obtain ⟨a, b, X, hcell, hXl⟩ := gCell_form (grpOf gs nm)
  obtain ⟨a2, b2, X2, hcell2, _⟩ := gCell_form (grpOf gs sRc)
  have hfl : X.length < 1000 := by
    rw [hXl]
    cases hg : grpOf gs nm with
    | none => simp
    | some g => exact hgf g (grpOf_mem hg).1
  rw [hcell] at hF1
  rw [hcell2] at hF2
  have hSl : (strs S).length = S.length := strs_length S
  have hNl : (u64s N).length = N.length := u64s_length N
  have e55 : ∀ n : Nat, F55 [.agg [.str nm, .sl (u64s N), .sl (strs S)], .int .i64 (n : Int), .int .i64 0] = some (.sv (.bool (decide (N.length = n) && decide (S.length = 0)))) := by
    intro n
    rw [← hSl, ← hNl]
    rfl
  have hmx : (if X.length < N.length then (N.length : Int) else (X.length : Int)) = ((max X.length N.length : Nat) : Int) := by
    split <;> omega
  have b1 : (nm == [114, 97]) = decide (nm = sRa) := by unfold sRa; rw [Bool.eq_iff_iff]; simp
  have b2' : (nm == [112, 114, 111, 99, 52, 111, 112, 115]) = decide (nm = sOps) := by unfold sOps; rw [Bool.eq_iff_iff]; simp
  have b3 : (nm == [119, 100, 101, 108, 101, 103, 95, 103, 101, 116, 97, 116, 116, 114]) = decide (nm = sWd) := by unfold sWd; rw [Bool.eq_iff_iff]; simp
  have d1 : (nm = [114, 97]) = (nm = sRa) := rfl
  have d2 : (nm = [112, 114, 111, 99, 52, 111, 112, 115]) = (nm = sOps) := rfl
  have d3 : (nm = [119, 100, 101, 108, 101, 103, 95, 103, 101, 116, 97, 116, 116, 114]) = (nm = sWd) := rfl
  obtain ⟨w1, w2, w3⟩ := sWd_ne
  have hsRc : sRc = [114, 99] := rfl
  rw [hsRc] at hF2
  unfold nfOk1 nfWant
  simp only
  clear hF hcell hcell2 f3 f5
  have fin : ∀ (ok : Bool) (n : Nat) (q : Bool), q = (ok && (decide (N.length = n) && decide (S.length = 0))) →
      (∃ bx', evCA E cf m b3084_0 (st3084 xs (grpsSV gs) i bx) = if (ok && (decide (N.length = n) && decide (S.length = 0))) = true then some (.normal, st3084 xs (grpsSV gs) (i + 1) bx') else some (.ret, bad3084 bx')) →
      ∃ bx', evCA E cf m b3084_0 (st3084 xs (grpsSV gs) i bx) = if q = true then some (.normal, st3084 xs (grpsSV gs) (i + 1) bx') else some (.ret, bad3084 bx') := fun ok n q h1 h2 => by rw [h1]; exact h2
  have opt : ∀ (g : Option Grp) (f : Grp → Nat), (match g with | some g => some (f g) | none => none) = g.map f := fun g f => by cases g <;> rfl
  generalize grpsSV gs = G at *
  by_cases hra : nm = sRa
  · have hops : nm ≠ sOps := fun h => w3 (h.symm.trans hra)
    have hwd : nm ≠ sWd := fun h => w1 (h.symm.trans hra)
    refine fin (grpOf gs nm).isSome 12 _ ?_ ⟨?_, ?_⟩
    · simp only [if_neg hwd, if_pos hra]
      have h12 : (12 = N.length) = (N.length = 12) := propext eq_comm
      cases grpOf gs nm <;> simp [h12]
    · exact bx ++ [.live [.sv (.str nm), .sv (.sl (u64s N)), .sv (.sl (strs S))], .live [.sv (.str a), .sv (.str b), .sv (.sl X)]]
    · have e := e55 12
      rw [show ((12 : Nat) : Int) = 12 from rfl] at e
      rw [← d1] at hra
      subst hra
      generalize (decide (N.length = 12) && decide (S.length = 0)) = v at *
      generalize u64s N = U at *
      generalize strs S = T at *
      cases hok : (grpOf gs [114, 97]).isSome <;> rw [hok] at hF1
      · simp [st3084, bad3084, b3084_0, hlt, hc, hp, hF1]
      · cases v <;> simp [st3084, bad3084, b3084_0, hlt, hc, hp, hF1, h55, e, hw]
  by_cases hops : nm = sOps
  · have hwd : nm ≠ sWd := fun h => w2 (h.symm.trans hops)
    refine fin (grpOf gs nm).isSome (max X.length N.length) _ ?_ ⟨?_, ?_⟩
    · simp only [hwd, hra, if_false]
      cases hg : grpOf gs nm with
      | none => simp
      | some g =>
        rw [hg] at hXl
        simp only at hXl
        simp [hops, hXl, eq_comm]
    · exact bx ++ [.live [.sv (.str nm), .sv (.sl (u64s N)), .sv (.sl (strs S))], .live [.sv (.str a), .sv (.str b), .sv (.sl X)]]
    · have e := e55 (max X.length N.length)
      rw [← d2] at hops
      subst hops
      generalize (decide (N.length = max X.length N.length) && decide (S.length = 0)) = v at *
      generalize hM : ((max X.length N.length : Nat) : Int) = M at *
      generalize u64s N = U at *
      generalize strs S = T at *
      cases hok : (grpOf gs [112, 114, 111, 99, 52, 111, 112, 115]).isSome <;> rw [hok] at hF1
      · simp [st3084, bad3084, b3084_0, hlt, hc, hp, hF1, hNl, hmx]
      · cases v <;> simp [st3084, bad3084, b3084_0, hlt, hc, hp, hF1, hNl, hmx, h55, e, hw]
  by_cases hwd : nm = sWd
  · refine fin (grpOf gs sRc).isSome 1 _ ?_ ⟨?_, ?_⟩
    · simp only [hwd, if_true]
      cases grpOf gs sRc <;> simp [eq_comm]
    · exact bx ++ [.live [.sv (.str nm), .sv (.sl (u64s N)), .sv (.sl (strs S))], .live [.sv (.str a), .sv (.str b), .sv (.sl X)], .live [.sv (.str a2), .sv (.str b2), .sv (.sl X2)]]
    · have e := e55 1
      rw [show ((1 : Nat) : Int) = 1 from rfl] at e
      have hd1 : ¬ nm = [114, 97] := hra
      have hd2 : ¬ nm = [112, 114, 111, 99, 52, 111, 112, 115] := hops
      rw [← d3] at hwd
      subst hwd
      generalize (decide (N.length = 1) && decide (S.length = 0)) = v at *
      generalize u64s N = U at *
      generalize strs S = T at *
      cases hok : (grpOf gs sRc).isSome <;> rw [show grpOf gs [114, 99] = grpOf gs sRc from rfl, hok] at hF2
      · simp [st3084, bad3084, b3084_0, hlt, hc, hp, hF1, hF2]
      · cases v <;> simp [st3084, bad3084, b3084_0, hlt, hc, hp, hF1, hF2, h55, e, hw]
  · refine fin (grpOf gs nm).isSome X.length _ ?_ ⟨?_, ?_⟩
    · simp only [hwd, hra, hops, if_false]
      cases hg : grpOf gs nm with
      | none => simp
      | some g =>
        rw [hg] at hXl
        simp only at hXl
        simp [hXl, eq_comm]
    · exact bx ++ [.live [.sv (.str nm), .sv (.sl (u64s N)), .sv (.sl (strs S))], .live [.sv (.str a), .sv (.str b), .sv (.sl X)]]
    · have e := e55 X.length
      have hd1 : ¬ nm = [114, 97] := hra
      have hd2 : ¬ nm = [112, 114, 111, 99, 52, 111, 112, 115] := hops
      have hd3 : ¬ nm = [119, 100, 101, 108, 101, 103, 95, 103, 101, 116, 97, 116, 116, 114] := hwd
      have hb1 : (nm == [114, 97]) = false := by simpa using hd1
      have hb2 : (nm == [112, 114, 111, 99, 52, 111, 112, 115]) = false := by simpa using hd2
      have hb3 : (nm == [119, 100, 101, 108, 101, 103, 95, 103, 101, 116, 97, 116, 116, 114]) = false := by simpa using hd3
      generalize (decide (N.length = X.length) && decide (S.length = 0)) = v at *
      generalize u64s N = U at *
      generalize strs S = T at *
      cases hok : (grpOf gs nm).isSome <;> rw [hok] at hF1
      · simp [st3084, bad3084, b3084_0, hlt, hc, hp, hF1, hd1, hd2, hd3, hb1, hb2, hb3]
      · cases v <;> simp [st3084, bad3084, b3084_0, hlt, hc, hp, hF1, hd1, hd2, hd3, hb1, hb2, hb3, h55, e, hw]

theorem loop3084 (E : Env) (cf : CallF) (m : Nat) (h47 : Has E 65 S3147) (h55 : E.pure 66 = some F55) (xs : List SV) (gs : List Grp) (hgl : gs.length < 1000) (hgf : ∀ g ∈ gs, g.fields.length < 1000) (hxl : xs.length < 1000000000) :
    ∀ (rest : List RowD) (pre : List SV) (bx : List Box) (i k : Nat), xs = pre ++ rowsSV rest → i = pre.length → (∀ r ∈ rest, r.fits3) → rest.length < k →
      ∃ bx', roundsA (evCA E cf m b3084_0) k (st3084 xs (grpsSV gs) i bx) = if rest.all (nfOk1 gs) = true then some (.exit 0, { nt := 58, tm := [(0, .sv (.sl xs))], lz := none, bx := bx', df := [] }) else some (.ret, bad3084 bx') := by
  intro rest
  induction rest with
  | nil =>
    intro pre bx i k hsp hi _ hk
    obtain ⟨k, rfl⟩ : ∃ k', k = k' + 1 := ⟨k - 1, by omega⟩
    have hlt : ¬ (i < xs.length) := by rw [hsp, hi]; simp [rowsSV]
    refine ⟨bx, roundsA_out ?_ (by simp)⟩
    simp [st3084, b3084_0, hlt]
  | cons r rest ih =>
    intro pre bx i k hsp hi hr hk
    obtain ⟨k, rfl⟩ : ∃ k', k = k' + 1 := ⟨k - 1, by omega⟩
    have hlt : i < xs.length := by rw [hsp, hi]; simp [rowsSV]
    have hc : ∀ h : i < xs.length, xs[i]'h = .agg [.str r.name, .sl (u64s r.N), .sl (strs r.S)] := by subst hi; subst hsp; simp [rowsSV, RowD.sv]
    obtain ⟨b1, hst⟩ := step3084 E cf m h47 h55 xs gs hgl hgf r (hr r (by simp)) i hlt hxl hc bx
    cases hv : nfOk1 gs r with
    | false =>
      rw [hv, if_neg (by simp)] at hst
      exact ⟨_, by rw [if_neg (by simp [hv])]; exact roundsA_out hst (by simp)⟩
    | true =>
      rw [hv, if_pos rfl] at hst
      obtain ⟨bx', he⟩ := ih (pre ++ [r.sv]) b1 (i + 1) k (by rw [hsp]; simp [rowsSV]) (by simp [hi]) (fun q hq => hr q (by simp [hq])) (by simp at hk; omega)
      exact ⟨bx', by rw [roundsA_step hst, he]; simp [hv]⟩

def S3084 (F : List SV → Option AV) : Prop := ∀ (gs : List Grp) (l : List RowD), gs.length < 1000 → (∀ g ∈ gs, g.fields.length < 1000) → rowsFit3 l → F [.sl (rowsSV l), .sl (grpsSV gs)] = some (.sv (.bool (nfOk gs l)))

theorem ev3084 (E : Env) (h : E.code 25 = some c3084) (h47 : Has E 65 S3147) (h55 : E.pure 66 = some F55) (h1084 : E.pure 67 = some F1084) : S3084 (autoF E 25) := by
  intro gs l hgl hgf hl
  have hrl : (rowsSV l).length = l.length := by simp [rowsSV]
  obtain ⟨bx', he⟩ := loop3084 E (evF E (l.length + 2)) (l.length + 2) h47 h55 (rowsSV l) gs hgl hgf (by have := hl.1; omega) l [] [] 0 (l.length + 2) rfl rfl hl.2 (by omega)
  have hD := F1084_eq l (by have := hl.1; omega)
  refine autoA_sv (n := l.length + 2) ?_ rfl
  unfold evPA
  simp only [h]
  unfold nfOk
  simp only [st3084, bad3084, Int.ofNat_zero, Int.natCast_zero] at he
  generalize rowsSV l = R at *
  generalize grpsSV gs = G at *
  cases hv : l.all (nfOk1 gs) with
  | false => rw [hv, if_neg (by simp)] at he; simp [c3084, he]
  | true => rw [hv, if_pos rfl] at he; simp [c3084, he, h1084, hD]

end Go.Ev

set_option linter.unusedSimpArgs false
set_option linter.unusedVariables false
namespace Go.Ev
open Go.Proofs

theorem joinN_len : ∀ (ns : List Nat), (∀ n ∈ ns, n < 18446744073709551616) → (joinS [32] (ns.map decS)).length ≤ ns.length * 21
  | [], _ => by simp [joinS]
  | n :: ns, h => by
    have h1 := decS_len20 (h n (by simp))
    have key : ∀ l : List Nat, (∀ n ∈ l, n < 18446744073709551616) → (((l.map decS).map fun y => [32] ++ y).flatten).length ≤ l.length * 21 := by
      intro l
      induction l with
      | nil => intro _; simp
      | cons x xs ih =>
        intro hx
        have i1 := ih fun n hn => hx n (by simp [hn])
        have i2 := decS_len20 (hx x (by simp))
        simp only [List.map_cons, List.flatten_cons, List.length_append, List.length_cons, List.length_nil] at *
        omega
    have := key ns fun n hn => h n (by simp [hn])
    simp only [List.map_cons, joinS, List.length_append, List.length_cons] at *
    omega

def lit0 : List UInt8 := [32, 48, 46, 48, 48, 48]

def stT3086 (xs : List SV) (out : List UInt8) (i : Nat) (bx : List Box) (j : Nat) : SA := { nt := 45, tm := [(36, .sv (.int .i64 j)), (8, .sv (.int .i64 i)), (7, .sv (.int .i64 xs.length)), (6, .sv (.sl xs)), (3, .sv (.str out))], lz := none, bx := bx, df := [] }
def st3086 (xs : List SV) (out : List UInt8) (i : Nat) (bx : List Box) : SA := { nt := 45, tm := [(8, .sv (.int .i64 i)), (7, .sv (.int .i64 xs.length)), (6, .sv (.sl xs)), (3, .sv (.str out))], lz := none, bx := bx, df := [] }

theorem loopT3086 (E : Env) (cf : CallF) (m : Nat) (xs : List SV) (i : Nat) (bx : List Box) :
    ∀ (d j : Nat) (out : List UInt8) (k : Nat), j + d = 10 → out.length + d * 6 < 1000000000000000000 → d < k → roundsA (evCA E cf m b3086_0) k (stT3086 xs out i bx j) = some (.exit 2, st3086 xs (out ++ (List.replicate d lit0).flatten) i bx) := by
  intro d
  induction d with
  | zero =>
    intro j out k hd _ hk
    obtain ⟨k, rfl⟩ : ∃ k', k = k' + 1 := ⟨k - 1, by omega⟩
    have hlt : ¬ (j : Int) < 10 := by omega
    refine roundsA_out ?_ (by simp)
    simp [stT3086, st3086, b3086_0, hlt]
  | succ d ih =>
    intro j out k hd ho hk
    obtain ⟨k, rfl⟩ : ∃ k', k = k' + 1 := ⟨k - 1, by omega⟩
    have hw : binSV .add (.int .i64 (j : Int)) (.int .i64 1) = some (.int .i64 ((j + 1 : Nat) : Int)) := by
      simp only [binSV, if_true]
      rw [show IntKind.i64.wrap ((j : Int) + 1) = ((j + 1 : Nat) : Int) from by rw [IntKind.wrap_i64]; omega]
    have hlss : binSV .lss (.int .i64 (j : Int)) (.int .i64 10) = some (.bool true) := by
      simp only [binSV, if_true, show (j : Int) < 10 from by omega, decide_true]
    obtain ⟨Z, hZ⟩ : ∃ z, z = out ++ lit0 := ⟨_, rfl⟩
    have y : binSV .add (.str out) (.str [32, 48, 46, 48, 48, 48]) = some (.str Z) := by rw [hZ]; exact addW (by simp; omega)
    have hZl : Z.length = out.length + 6 := by rw [hZ]; simp [lit0]
    have hst : evCA E cf m b3086_0 (stT3086 xs out i bx j) = some (.normal, stT3086 xs Z i bx (j + 1)) := by
      clear hZ ih
      simp [-binSV, stT3086, b3086_0, hlss, y, hw]
    rw [roundsA_step hst, ih (j + 1) Z k (by omega) (by omega) (by omega), hZ, List.replicate_succ, List.flatten_cons, List.append_assoc]

set_option maxRecDepth 100000 in
set_option maxHeartbeats 16000000 in
theorem core3086 (E : Env) (cf : CallF) (m : Nat) (hm : 12 < m) (h30 : E.pure 71 = some F30) (h45 : E.pure 72 = some F45) (h82 : E.pure 73 = some F82) (xs U T : List SV) (nm D J : List UInt8) (hnl : nm.length < 2147483648) (hDl : D.length ≤ 20) (hJl : J.length ≤ 2100000000000) (kN : Nat) (hNl : U.length = kN) (out : List UInt8) (ho : out.length < 100000000000000000) (i : Nat) (hlt : i < xs.length) (hxl : xs.length < 1000000000)
    (hc : ∀ h : i < xs.length, xs[i]'h = .agg [.str nm, .sl U, .sl T]) (bx : List Box) (pr th : Bool) (e30 : F30 [.str nm, .str [112, 114, 111, 99]] = some (.sv (.bool pr))) (e45 : F45 [.int .u64 (kN : Int)] = some (.sv (.str D))) (hw64 : IntKind.u64.wrap (kN : Int) = (kN : Int)) (e82 : F82 [.sl U, .str [32]] = some (.sv (.str J))) (hth0 : th = decide (nm = [116, 104])) :
    evCA E cf m b3086_1 (st3086 xs out i bx) = some (.normal, st3086 xs (out ++ ((((nm ++ (if pr = true then [32] ++ D else [])) ++ ([32] ++ J)) ++ (if th = true then thTail else [])) ++ [10])) (i + 1) (bx ++ [.live [.sv (.str nm), .sv (.sl U), .sv (.sl T)]])) := by
  have hw : binSV .add (.int .i64 (i : Int)) (.int .i64 1) = some (.int .i64 ((i + 1 : Nat) : Int)) := by
    simp only [binSV, if_true]
    rw [show IntKind.i64.wrap ((i : Int) + 1) = ((i + 1 : Nat) : Int) from by rw [IntKind.wrap_i64]; omega]
  have hlss : binSV .lss (.int .i64 (i : Int)) (.int .i64 (xs.length : Int)) = some (.bool true) := by
    simp only [binSV, if_true, show (i : Int) < (xs.length : Int) from by omega, decide_true]
  have hth : binSV .eql (.str nm) (.str [116, 104]) = some (.bool th) := by
    rw [hth0]
    simp only [binSV]
    congr 2
    rw [Bool.eq_iff_iff]; simp
  have hthb : True := trivial
  clear hth0
  cases pr <;> cases th <;> simp only [if_true, Bool.false_eq_true, if_false]
  · -- proc 0 th 0
    obtain ⟨Z0, hZ0⟩ : ∃ z, z = out ++ nm := ⟨_, rfl⟩
    have yZ0 : binSV .add (.str out) (.str nm) = some (.str Z0) := by rw [hZ0]; exact addW (by first | omega | (simp; omega) | simp)
    have xZ0 : Z0.length = out.length + (nm : List UInt8).length := by rw [hZ0, List.length_append]
    try simp only [List.length_cons, List.length_nil] at xZ0
    obtain ⟨Q1, hQ1⟩ : ∃ z, z = [32] ++ J := ⟨_, rfl⟩
    have yQ1 : binSV .add (.str [32]) (.str J) = some (.str Q1) := by rw [hQ1]; exact addW (by first | omega | (simp; omega) | simp)
    have xQ1 : Q1.length = ([32] : List UInt8).length + (J : List UInt8).length := by rw [hQ1, List.length_append]
    try simp only [List.length_cons, List.length_nil] at xQ1
    obtain ⟨Z2, hZ2⟩ : ∃ z, z = Z0 ++ Q1 := ⟨_, rfl⟩
    have yZ2 : binSV .add (.str Z0) (.str Q1) = some (.str Z2) := by rw [hZ2]; exact addW (by first | omega | (simp; omega) | simp)
    have xZ2 : Z2.length = Z0.length + (Q1 : List UInt8).length := by rw [hZ2, List.length_append]
    try simp only [List.length_cons, List.length_nil] at xZ2
    obtain ⟨Z4, hZ4⟩ : ∃ z, z = Z2 ++ [10] := ⟨_, rfl⟩
    have yZ4 : binSV .add (.str Z2) (.str [10]) = some (.str Z4) := by rw [hZ4]; exact addW (by first | omega | (simp; omega) | simp)
    have xZ4 : Z4.length = Z2.length + ([10] : List UInt8).length := by rw [hZ4, List.length_append]
    try simp only [List.length_cons, List.length_nil] at xZ4
    rw [show out ++ ((((nm ++ []) ++ ([32] ++ J)) ++ []) ++ [10]) = Z4 from by
      rw [hZ4, hZ2, hQ1, hZ0]
      simp only [List.append_assoc, List.nil_append, show thTail = (List.replicate 10 lit0).flatten from rfl]]
    clear hZ4 hZ2 hQ1 hZ0
    simp [-binSV, st3086, b3086_1, hlss, hlt, hc, h30, e30, h82, e82, hth, hthb, yZ0, yQ1, yZ2, yZ4, hw]
  · -- proc 0 th 1
    obtain ⟨Z0, hZ0⟩ : ∃ z, z = out ++ nm := ⟨_, rfl⟩
    have yZ0 : binSV .add (.str out) (.str nm) = some (.str Z0) := by rw [hZ0]; exact addW (by first | omega | (simp; omega) | simp)
    have xZ0 : Z0.length = out.length + (nm : List UInt8).length := by rw [hZ0, List.length_append]
    try simp only [List.length_cons, List.length_nil] at xZ0
    obtain ⟨Q1, hQ1⟩ : ∃ z, z = [32] ++ J := ⟨_, rfl⟩
    have yQ1 : binSV .add (.str [32]) (.str J) = some (.str Q1) := by rw [hQ1]; exact addW (by first | omega | (simp; omega) | simp)
    have xQ1 : Q1.length = ([32] : List UInt8).length + (J : List UInt8).length := by rw [hQ1, List.length_append]
    try simp only [List.length_cons, List.length_nil] at xQ1
    obtain ⟨Z2, hZ2⟩ : ∃ z, z = Z0 ++ Q1 := ⟨_, rfl⟩
    have yZ2 : binSV .add (.str Z0) (.str Q1) = some (.str Z2) := by rw [hZ2]; exact addW (by first | omega | (simp; omega) | simp)
    have xZ2 : Z2.length = Z0.length + (Q1 : List UInt8).length := by rw [hZ2, List.length_append]
    try simp only [List.length_cons, List.length_nil] at xZ2
    have hin := loopT3086 E cf m xs i (bx ++ [.live [.sv (.str nm), .sv (.sl U), .sv (.sl T)]]) 10 0 Z2 m rfl (by omega) (by omega)
    obtain ⟨Z3, hZ3⟩ : ∃ z, z = Z2 ++ (List.replicate 10 lit0).flatten := ⟨_, rfl⟩
    have xZ3 : Z3.length = Z2.length + 60 := by rw [hZ3, List.length_append]; rfl
    rw [← hZ3] at hin
    simp only [stT3086, st3086, Int.ofNat_zero, Int.natCast_zero] at hin
    obtain ⟨Z4, hZ4⟩ : ∃ z, z = Z3 ++ [10] := ⟨_, rfl⟩
    have yZ4 : binSV .add (.str Z3) (.str [10]) = some (.str Z4) := by rw [hZ4]; exact addW (by first | omega | (simp; omega) | simp)
    have xZ4 : Z4.length = Z3.length + ([10] : List UInt8).length := by rw [hZ4, List.length_append]
    try simp only [List.length_cons, List.length_nil] at xZ4
    rw [show out ++ ((((nm ++ []) ++ ([32] ++ J)) ++ thTail) ++ [10]) = Z4 from by
      rw [hZ4, hZ3, hZ2, hQ1, hZ0]
      simp only [List.append_assoc, List.nil_append, show thTail = (List.replicate 10 lit0).flatten from rfl]]
    clear hZ4 hZ3 hZ2 hQ1 hZ0
    simp [-binSV, st3086, b3086_1, hlss, hlt, hc, h30, e30, h82, e82, hth, hin, yZ0, yQ1, yZ2, yZ4, hw]
  · -- proc 1 th 0
    obtain ⟨Z0, hZ0⟩ : ∃ z, z = out ++ nm := ⟨_, rfl⟩
    have yZ0 : binSV .add (.str out) (.str nm) = some (.str Z0) := by rw [hZ0]; exact addW (by first | omega | (simp; omega) | simp)
    have xZ0 : Z0.length = out.length + (nm : List UInt8).length := by rw [hZ0, List.length_append]
    try simp only [List.length_cons, List.length_nil] at xZ0
    obtain ⟨P1, hP1⟩ : ∃ z, z = [32] ++ D := ⟨_, rfl⟩
    have yP1 : binSV .add (.str [32]) (.str D) = some (.str P1) := by rw [hP1]; exact addW (by first | omega | (simp; omega) | simp)
    have xP1 : P1.length = ([32] : List UInt8).length + (D : List UInt8).length := by rw [hP1, List.length_append]
    try simp only [List.length_cons, List.length_nil] at xP1
    obtain ⟨Z1, hZ1⟩ : ∃ z, z = Z0 ++ P1 := ⟨_, rfl⟩
    have yZ1 : binSV .add (.str Z0) (.str P1) = some (.str Z1) := by rw [hZ1]; exact addW (by first | omega | (simp; omega) | simp)
    have xZ1 : Z1.length = Z0.length + (P1 : List UInt8).length := by rw [hZ1, List.length_append]
    try simp only [List.length_cons, List.length_nil] at xZ1
    obtain ⟨Q1, hQ1⟩ : ∃ z, z = [32] ++ J := ⟨_, rfl⟩
    have yQ1 : binSV .add (.str [32]) (.str J) = some (.str Q1) := by rw [hQ1]; exact addW (by first | omega | (simp; omega) | simp)
    have xQ1 : Q1.length = ([32] : List UInt8).length + (J : List UInt8).length := by rw [hQ1, List.length_append]
    try simp only [List.length_cons, List.length_nil] at xQ1
    obtain ⟨Z2, hZ2⟩ : ∃ z, z = Z1 ++ Q1 := ⟨_, rfl⟩
    have yZ2 : binSV .add (.str Z1) (.str Q1) = some (.str Z2) := by rw [hZ2]; exact addW (by first | omega | (simp; omega) | simp)
    have xZ2 : Z2.length = Z1.length + (Q1 : List UInt8).length := by rw [hZ2, List.length_append]
    try simp only [List.length_cons, List.length_nil] at xZ2
    obtain ⟨Z4, hZ4⟩ : ∃ z, z = Z2 ++ [10] := ⟨_, rfl⟩
    have yZ4 : binSV .add (.str Z2) (.str [10]) = some (.str Z4) := by rw [hZ4]; exact addW (by first | omega | (simp; omega) | simp)
    have xZ4 : Z4.length = Z2.length + ([10] : List UInt8).length := by rw [hZ4, List.length_append]
    try simp only [List.length_cons, List.length_nil] at xZ4
    rw [show out ++ ((((nm ++ ([32] ++ D)) ++ ([32] ++ J)) ++ []) ++ [10]) = Z4 from by
      rw [hZ4, hZ2, hQ1, hZ1, hP1, hZ0]
      simp only [List.append_assoc, List.nil_append, show thTail = (List.replicate 10 lit0).flatten from rfl]]
    clear hZ4 hZ2 hQ1 hZ1 hP1 hZ0
    simp [-binSV, st3086, b3086_1, hlss, hlt, hc, h30, e30, hNl, hw64, h45, e45, h82, e82, hth, hthb, yZ0, yP1, yZ1, yQ1, yZ2, yZ4, hw]
  · -- proc 1 th 1
    obtain ⟨Z0, hZ0⟩ : ∃ z, z = out ++ nm := ⟨_, rfl⟩
    have yZ0 : binSV .add (.str out) (.str nm) = some (.str Z0) := by rw [hZ0]; exact addW (by first | omega | (simp; omega) | simp)
    have xZ0 : Z0.length = out.length + (nm : List UInt8).length := by rw [hZ0, List.length_append]
    try simp only [List.length_cons, List.length_nil] at xZ0
    obtain ⟨P1, hP1⟩ : ∃ z, z = [32] ++ D := ⟨_, rfl⟩
    have yP1 : binSV .add (.str [32]) (.str D) = some (.str P1) := by rw [hP1]; exact addW (by first | omega | (simp; omega) | simp)
    have xP1 : P1.length = ([32] : List UInt8).length + (D : List UInt8).length := by rw [hP1, List.length_append]
    try simp only [List.length_cons, List.length_nil] at xP1
    obtain ⟨Z1, hZ1⟩ : ∃ z, z = Z0 ++ P1 := ⟨_, rfl⟩
    have yZ1 : binSV .add (.str Z0) (.str P1) = some (.str Z1) := by rw [hZ1]; exact addW (by first | omega | (simp; omega) | simp)
    have xZ1 : Z1.length = Z0.length + (P1 : List UInt8).length := by rw [hZ1, List.length_append]
    try simp only [List.length_cons, List.length_nil] at xZ1
    obtain ⟨Q1, hQ1⟩ : ∃ z, z = [32] ++ J := ⟨_, rfl⟩
    have yQ1 : binSV .add (.str [32]) (.str J) = some (.str Q1) := by rw [hQ1]; exact addW (by first | omega | (simp; omega) | simp)
    have xQ1 : Q1.length = ([32] : List UInt8).length + (J : List UInt8).length := by rw [hQ1, List.length_append]
    try simp only [List.length_cons, List.length_nil] at xQ1
    obtain ⟨Z2, hZ2⟩ : ∃ z, z = Z1 ++ Q1 := ⟨_, rfl⟩
    have yZ2 : binSV .add (.str Z1) (.str Q1) = some (.str Z2) := by rw [hZ2]; exact addW (by first | omega | (simp; omega) | simp)
    have xZ2 : Z2.length = Z1.length + (Q1 : List UInt8).length := by rw [hZ2, List.length_append]
    try simp only [List.length_cons, List.length_nil] at xZ2
    have hin := loopT3086 E cf m xs i (bx ++ [.live [.sv (.str nm), .sv (.sl U), .sv (.sl T)]]) 10 0 Z2 m rfl (by omega) (by omega)
    obtain ⟨Z3, hZ3⟩ : ∃ z, z = Z2 ++ (List.replicate 10 lit0).flatten := ⟨_, rfl⟩
    have xZ3 : Z3.length = Z2.length + 60 := by rw [hZ3, List.length_append]; rfl
    rw [← hZ3] at hin
    simp only [stT3086, st3086, Int.ofNat_zero, Int.natCast_zero] at hin
    obtain ⟨Z4, hZ4⟩ : ∃ z, z = Z3 ++ [10] := ⟨_, rfl⟩
    have yZ4 : binSV .add (.str Z3) (.str [10]) = some (.str Z4) := by rw [hZ4]; exact addW (by first | omega | (simp; omega) | simp)
    have xZ4 : Z4.length = Z3.length + ([10] : List UInt8).length := by rw [hZ4, List.length_append]
    try simp only [List.length_cons, List.length_nil] at xZ4
    rw [show out ++ ((((nm ++ ([32] ++ D)) ++ ([32] ++ J)) ++ thTail) ++ [10]) = Z4 from by
      rw [hZ4, hZ3, hZ2, hQ1, hZ1, hP1, hZ0]
      simp only [List.append_assoc, List.nil_append, show thTail = (List.replicate 10 lit0).flatten from rfl]]
    clear hZ4 hZ3 hZ2 hQ1 hZ1 hP1 hZ0
    simp [-binSV, st3086, b3086_1, hlss, hlt, hc, h30, e30, hNl, hw64, h45, e45, h82, e82, hth, hin, yZ0, yP1, yZ1, yQ1, yZ2, yZ4, hw]

theorem nfBody_len {r : RowD} (hf : r.fits3) : (nfBody r ++ [10]).length ≤ 3000000000000 := by
  obtain ⟨f1, f2, f3, _, _⟩ := hf
  have h1 := joinN_len r.N f3
  have h2 := decS_len20 (n := r.N.length) (by omega)
  have h3 : thTail.length = 60 := rfl
  unfold nfBody
  simp only [List.length_append, List.length_cons, List.length_nil]
  split <;> split <;> simp only [List.length_append, List.length_cons, List.length_nil] <;> omega

theorem loop3086 (E : Env) (cf : CallF) (m : Nat) (hm : 12 < m) (h30 : E.pure 71 = some F30) (h45 : E.pure 72 = some F45) (h82 : E.pure 73 = some F82) (xs : List SV) (hxl : xs.length < 10000) :
    ∀ (rest : List RowD) (pre : List SV) (out : List UInt8) (bx : List Box) (i k : Nat), xs = pre ++ rowsSV rest → i = pre.length → (∀ r ∈ rest, r.fits3) → out.length + rest.length * 3000000000000 < 100000000000000000 → rest.length < k →
      ∃ bx', roundsA (evCA E cf m b3086_1) k (st3086 xs out i bx) = some (.exit 0, { nt := 45, tm := [(3, .sv (.str (out ++ nfText rest)))], lz := none, bx := bx', df := [] }) := by
  intro rest
  induction rest with
  | nil =>
    intro pre out bx i k hsp hi _ _ hk
    obtain ⟨k, rfl⟩ : ∃ k', k = k' + 1 := ⟨k - 1, by omega⟩
    have hlt : ¬ (i < xs.length) := by rw [hsp, hi]; simp [rowsSV]
    refine ⟨bx, roundsA_out ?_ (by simp)⟩
    simp [st3086, b3086_1, hlt, nfText]
  | cons r rest ih =>
    intro pre out bx i k hsp hi hr ho hk
    obtain ⟨k, rfl⟩ : ∃ k', k = k' + 1 := ⟨k - 1, by omega⟩
    have hlt : i < xs.length := by rw [hsp, hi]; simp [rowsSV]
    have hf := hr r (by simp)
    obtain ⟨f1, f2, f3, _, _⟩ := hr r (by simp)
    have hlen := nfBody_len hf
    have hc : ∀ h : i < xs.length, xs[i]'h = .agg [.str r.name, .sl (u64s r.N), .sl (strs r.S)] := by subst hi; subst hsp; simp [rowsSV, RowD.sv]
    simp only [List.length_cons, Nat.add_mul, Nat.one_mul] at ho
    have hJ := joinN_len r.N f3
    have hst := core3086 E cf m hm h30 h45 h82 xs (u64s r.N) (strs r.S) r.name (decS r.N.length) (joinS [32] (r.N.map decS)) f1 (decS_len20 (by omega)) (by omega) r.N.length (u64s_length _) out (by omega) i hlt (by omega) hc bx (isProc r.name) (decide (r.name = [116, 104])) rfl (F45_eq _ (by omega)) (by rw [IntKind.wrap_u64]; omega) (F82_eq _ _ (by omega) f3 (by omega)) rfl
    have hb : (((r.name ++ (if isProc r.name = true then [32] ++ decS r.N.length else [])) ++ ([32] ++ joinS [32] (r.N.map decS))) ++ (if decide (r.name = [116, 104]) = true then thTail else [])) = nfBody r := by
      unfold nfBody
      simp only [decide_eq_true_eq]
      rfl
    rw [hb] at hst
    obtain ⟨bx', he⟩ := ih (pre ++ [r.sv]) (out ++ (nfBody r ++ [10])) (bx ++ [.live [.sv (.str r.name), .sv (.sl (u64s r.N)), .sv (.sl (strs r.S))]]) (i + 1) k (by rw [hsp]; simp [rowsSV]) (by simp [hi]) (fun q hq => hr q (by simp [hq])) (by rw [List.length_append]; omega) (by simp at hk; omega)
    refine ⟨bx', ?_⟩
    rw [roundsA_step hst, he]
    simp [nfText]

def S3086 (F : List SV → Option AV) : Prop := ∀ l : List RowD, l.length ≤ 1000 → (∀ r ∈ l, r.fits3) → F [.sl (rowsSV l)] = some (.sv (.str (nfText l)))

theorem ev3086 (E : Env) (h : E.code 27 = some c3086) (h30 : E.pure 71 = some F30) (h45 : E.pure 72 = some F45) (h82 : E.pure 73 = some F82) : S3086 (autoF E 27) := by
  intro l hl hf
  have hrl : (rowsSV l).length = l.length := by simp [rowsSV]
  obtain ⟨bx', he⟩ := loop3086 E (evF E (l.length + 13)) (l.length + 13) (by omega) h30 h45 h82 (rowsSV l) (by omega) l [] [] [] 0 (l.length + 13) rfl rfl hf (by simp; omega) (by omega)
  refine autoA_sv (n := l.length + 13) ?_ rfl
  unfold evPA
  simp only [h]
  rw [List.nil_append] at he
  simp only [st3086, Int.ofNat_zero, Int.natCast_zero] at he
  generalize nfText l = T at *
  generalize rowsSV l = R at *
  simp [c3086, he]

/-! ### No more rows than labels -/

theorem nodup_sub {α : Type} [DecidableEq α] : ∀ (l L : List α), l.Nodup → (∀ x ∈ l, x ∈ L) → l.length ≤ L.length
  | [], _, _, _ => by simp
  | x :: l, L, h, hs => by
    rw [List.nodup_cons] at h
    have hx := hs x (by simp)
    have h2 := nodup_sub l (L.erase x) h.2 (fun y hy => (List.mem_erase_of_ne (by rintro rfl; exact h.1 hy)).2 (hs y (by simp [hy])))
    rw [List.length_erase_of_mem hx] at h2
    have : 0 < L.length := List.length_pos_of_mem hx
    simp only [List.length_cons]
    omega

theorem distP_nodup : ∀ (l pre : List (List UInt8)), distP pre l = true → l.Nodup ∧ ∀ x ∈ l, x ∉ pre
  | [], _, _ => by simp
  | c :: l, pre, h => by
    simp only [distP, Bool.and_eq_true, List.all_eq_true, Bool.not_eq_true', beq_eq_false_iff_ne] at h
    obtain ⟨h1, h2⟩ := distP_nodup l (pre ++ [c]) h.2
    refine ⟨List.nodup_cons.2 ⟨fun hc => h2 c hc (by simp), h1⟩, fun x hx => ?_⟩
    rcases List.mem_cons.1 hx with rfl | hx
    · intro hp; exact h.1 _ hp rfl
    · intro hp; exact h2 x hx (by simp [hp])

theorem nfOk_len {gs : List Grp} {l : List RowD} (h : nfOk gs l = true) : l.length ≤ gs.length + 1 := by
  unfold nfOk at h
  simp only [Bool.and_eq_true, List.all_eq_true] at h
  obtain ⟨h1, h2⟩ := distP_nodup _ _ h.2
  have := nodup_sub (l.map RowD.name) (sWd :: gs.map Grp.label) h1 (fun x hx => by
    obtain ⟨r, hr, rfl⟩ := List.mem_map.1 hx
    have hw := (nfOk1_want (h.1 r hr)).1
    unfold nfWant at hw
    split at hw
    · rename_i e; rw [e]; simp
    · split at hw <;> simp only [Option.some.injEq, reduceCtorEq] at hw
      rename_i g hg
      obtain ⟨m1, m2⟩ := grpOf_mem hg
      exact List.mem_cons_of_mem _ (List.mem_map.2 ⟨g, m1, m2⟩))
  simp only [List.length_map, List.length_cons] at this
  exact this

end Go.Ev

set_option linter.unusedSimpArgs false
set_option linter.unusedVariables false
namespace Go.Ev
open Go.Proofs

end Go.Ev

set_option linter.unusedSimpArgs false
set_option linter.unusedVariables false
namespace Go.Ev
open Go.Proofs

def SNms (l : List (List UInt8)) (F : List SV → Option AV) : Prop := F [] = some (.sv (.sl (strs l)))

def S3149 (F : List SV → Option AV) : Prop := SNms nf_v2 F

theorem ev3149 (E : Env) (h : E.code 68 = some c3149) : S3149 (autoF E 68) := by
  refine autoA_sl (n := 1) (r := .own 9 (strs nf_v2)) ?_ rfl
  unfold evPA
  simp only [h]
  simp [c3149, strs, nf_v2]

def S3150 (F : List SV → Option AV) : Prop := SNms nf_v3 F

theorem ev3150 (E : Env) (h : E.code 69 = some c3150) : S3150 (autoF E 69) := by
  refine autoA_sl (n := 1) (r := .own 9 (strs nf_v3)) ?_ rfl
  unfold evPA
  simp only [h]
  simp [c3150, strs, nf_v3]

/-- The parser of a line of so many numbers. -/
def SPar (k : Nat) (F : List SV → Option AV) : Prop := ∀ ns : List Nat, ns.length = k → F [.sl (u64s ns)] = some (.sv (.tup [.agg (u64s ns), .nilI]))
/-- The parser of a line that says ahead how many numbers follow. -/
def SParL (k : Nat) (F : List SV → Option AV) : Prop := ∀ ns : List Nat, ns.length = k → F [.sl (u64s (k :: ns))] = some (.sv (.tup [.agg (u64s ns), .nilI]))
def STre (fs : List (List UInt8)) (F : List SV → Option AV) : Prop := ∀ (nm : List UInt8) (ns : List Nat), ns.length = fs.length → F [.str nm, .agg (u64s ns)] = some (.sv (fillN nm fs ns))

def S3154 (F : List SV → Option AV) : Prop := SPar 4 F

set_option maxRecDepth 100000 in
theorem ev3154 (E : Env) (h : E.code 80 = some c3154) : S3154 (autoF E 80) := by
  intro ns hn
  match ns, hn with
  | [q0, q1, q2, q3], _ =>
    refine autoF_sv (n := 1) ?_ rfl
    unfold evP
    simp only [h]
    kernel_rfl

def S3156 (F : List SV → Option AV) : Prop := SParL 18 F

set_option maxRecDepth 100000 in
theorem ev3156 (E : Env) (h : E.code 82 = some c3156) : S3156 (autoF E 82) := by
  intro ns hn
  match ns, hn with
  | [q0, q1, q2, q3, q4, q5, q6, q7, q8, q9, q10, q11, q12, q13, q14, q15, q16, q17], _ =>
    refine autoF_sv (n := 1) ?_ rfl
    unfold evP
    simp only [h]
    kernel_rfl

def S3157 (F : List SV → Option AV) : Prop := SParL 22 F

set_option maxRecDepth 100000 in
theorem ev3157 (E : Env) (h : E.code 83 = some c3157) : S3157 (autoF E 83) := by
  intro ns hn
  match ns, hn with
  | [q0, q1, q2, q3, q4, q5, q6, q7, q8, q9, q10, q11, q12, q13, q14, q15, q16, q17, q18, q19, q20, q21], _ =>
    refine autoF_sv (n := 1) ?_ rfl
    unfold evP
    simp only [h]
    kernel_rfl

theorem consOf {k : Nat} {l : List Nat} (h : l.length = k + 1) : ∃ q l', l = q :: l' ∧ l'.length = k := by
  match l, h with
  | q :: l', h => exact ⟨q, l', rfl, by simpa using h⟩

def S3161 (F : List SV → Option AV) : Prop := STre [[78, 101, 116, 67, 111, 117, 110, 116], [85, 68, 80, 67, 111, 117, 110, 116], [84, 67, 80, 67, 111, 117, 110, 116], [84, 67, 80, 67, 111, 110, 110, 101, 99, 116]] F

set_option maxRecDepth 100000 in
theorem ev3161 (E : Env) (h : E.code 87 = some c3161) : S3161 (autoF E 87) := by
  intro nm ns hn
  have hn : ns.length = 4 := hn
  obtain ⟨q0, n0, e, h0⟩ := consOf (k := 3) hn
  subst e
  obtain ⟨q1, n1, e, h1⟩ := consOf (k := 2) h0
  subst e
  obtain ⟨q2, n2, e, h2⟩ := consOf (k := 1) h1
  subst e
  obtain ⟨q3, n3, e, h3⟩ := consOf (k := 0) h2
  subst e
  obtain rfl := List.eq_nil_of_length_eq_zero h3
  refine autoF_sv (n := 1) ?_ rfl
  unfold evP
  simp only [h]
  kernel_rfl

def S3163 (F : List SV → Option AV) : Prop := STre nf_v2 F

set_option maxRecDepth 100000 in
theorem ev3163 (E : Env) (h : E.code 89 = some c3163) : S3163 (autoF E 89) := by
  intro nm ns hn
  have hn : ns.length = 18 := hn
  obtain ⟨q0, n0, e, h0⟩ := consOf (k := 17) hn
  subst e
  obtain ⟨q1, n1, e, h1⟩ := consOf (k := 16) h0
  subst e
  obtain ⟨q2, n2, e, h2⟩ := consOf (k := 15) h1
  subst e
  obtain ⟨q3, n3, e, h3⟩ := consOf (k := 14) h2
  subst e
  obtain ⟨q4, n4, e, h4⟩ := consOf (k := 13) h3
  subst e
  obtain ⟨q5, n5, e, h5⟩ := consOf (k := 12) h4
  subst e
  obtain ⟨q6, n6, e, h6⟩ := consOf (k := 11) h5
  subst e
  obtain ⟨q7, n7, e, h7⟩ := consOf (k := 10) h6
  subst e
  obtain ⟨q8, n8, e, h8⟩ := consOf (k := 9) h7
  subst e
  obtain ⟨q9, n9, e, h9⟩ := consOf (k := 8) h8
  subst e
  obtain ⟨q10, n10, e, h10⟩ := consOf (k := 7) h9
  subst e
  obtain ⟨q11, n11, e, h11⟩ := consOf (k := 6) h10
  subst e
  obtain ⟨q12, n12, e, h12⟩ := consOf (k := 5) h11
  subst e
  obtain ⟨q13, n13, e, h13⟩ := consOf (k := 4) h12
  subst e
  obtain ⟨q14, n14, e, h14⟩ := consOf (k := 3) h13
  subst e
  obtain ⟨q15, n15, e, h15⟩ := consOf (k := 2) h14
  subst e
  obtain ⟨q16, n16, e, h16⟩ := consOf (k := 1) h15
  subst e
  obtain ⟨q17, n17, e, h17⟩ := consOf (k := 0) h16
  subst e
  obtain rfl := List.eq_nil_of_length_eq_zero h17
  refine autoF_sv (n := 1) ?_ rfl
  unfold evP
  simp only [h]
  kernel_rfl

def S3164 (F : List SV → Option AV) : Prop := STre nf_v3 F

set_option maxRecDepth 100000 in
theorem ev3164 (E : Env) (h : E.code 90 = some c3164) : S3164 (autoF E 90) := by
  intro nm ns hn
  have hn : ns.length = 22 := hn
  obtain ⟨q0, n0, e, h0⟩ := consOf (k := 21) hn
  subst e
  obtain ⟨q1, n1, e, h1⟩ := consOf (k := 20) h0
  subst e
  obtain ⟨q2, n2, e, h2⟩ := consOf (k := 19) h1
  subst e
  obtain ⟨q3, n3, e, h3⟩ := consOf (k := 18) h2
  subst e
  obtain ⟨q4, n4, e, h4⟩ := consOf (k := 17) h3
  subst e
  obtain ⟨q5, n5, e, h5⟩ := consOf (k := 16) h4
  subst e
  obtain ⟨q6, n6, e, h6⟩ := consOf (k := 15) h5
  subst e
  obtain ⟨q7, n7, e, h7⟩ := consOf (k := 14) h6
  subst e
  obtain ⟨q8, n8, e, h8⟩ := consOf (k := 13) h7
  subst e
  obtain ⟨q9, n9, e, h9⟩ := consOf (k := 12) h8
  subst e
  obtain ⟨q10, n10, e, h10⟩ := consOf (k := 11) h9
  subst e
  obtain ⟨q11, n11, e, h11⟩ := consOf (k := 10) h10
  subst e
  obtain ⟨q12, n12, e, h12⟩ := consOf (k := 9) h11
  subst e
  obtain ⟨q13, n13, e, h13⟩ := consOf (k := 8) h12
  subst e
  obtain ⟨q14, n14, e, h14⟩ := consOf (k := 7) h13
  subst e
  obtain ⟨q15, n15, e, h15⟩ := consOf (k := 6) h14
  subst e
  obtain ⟨q16, n16, e, h16⟩ := consOf (k := 5) h15
  subst e
  obtain ⟨q17, n17, e, h17⟩ := consOf (k := 4) h16
  subst e
  obtain ⟨q18, n18, e, h18⟩ := consOf (k := 3) h17
  subst e
  obtain ⟨q19, n19, e, h19⟩ := consOf (k := 2) h18
  subst e
  obtain ⟨q20, n20, e, h20⟩ := consOf (k := 1) h19
  subst e
  obtain ⟨q21, n21, e, h21⟩ := consOf (k := 0) h20
  subst e
  obtain rfl := List.eq_nil_of_length_eq_zero h21
  refine autoF_sv (n := 1) ?_ rfl
  unfold evP
  simp only [h]
  kernel_rfl

end Go.Ev
