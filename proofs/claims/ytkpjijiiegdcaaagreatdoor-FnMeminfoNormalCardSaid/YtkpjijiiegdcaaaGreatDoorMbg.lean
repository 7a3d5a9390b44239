/- Memory: the door: the switch over the labels (lines printed by a program of this work). -/
/- Memory: the door: what the cells hold; the switch run (lines printed by a program of this work). -/
import Derived.Test.YtkpjijiiegdcaaaGreatDoorMbf
import Derived.Test.YtkpjijiiegdcaaaGreatDoorMaz
set_option linter.unusedSimpArgs false
set_option linter.unusedVariables false
namespace Go.Ev
open Go.Proofs

structure SwE where
  a : Nat
  lab : List UInt8
  p : Nat
  q : Option Nat
  nm : List UInt8

def swP (a p : Nat) : ACode := .seq (.region 0 [⟨some (a + 2), .fAddr p (.t 4), none⟩, ⟨none, .store none (.t (a + 2)) (.t 7), none⟩]) (.kill [7, a + 2])
def swQ (a q : Nat) : ACode := .seq (.region 0 [⟨some (a + 3), .fAddr q (.t 4), none⟩, ⟨none, .store none (.t (a + 3)) (.t 8), none⟩]) (.kill [8, a + 3])
def swT (a : Nat) (lab : List UInt8) (ks : List Nat) : ACode := .seq (.region 0 [⟨some (a + 1), .bin .eql (.t 53) (.c (.str lab)), none⟩, ⟨some a, .asg (.t (a + 1)), none⟩]) (.kill (ks ++ [a + 1]))

def swAll : List SwE → ACode
  | [] => .skip
  | [e] => .seq (swT e.a e.lab [53]) (.cond (.t e.a) (.seq (.kill [e.a]) (.seq (swP e.a e.p) (swQ e.a (e.q.getD 0)))) (.seq (.kill [7, 8, e.a]) .skip))
  | e :: f :: l => .seq (swT e.a e.lab []) (.cond (.t e.a) (match e.q with
      | some q => .seq (.kill [53, e.a]) (.seq (swP e.a e.p) (swQ e.a q))
      | none => .seq (.kill [8, 53, e.a]) (swP e.a e.p)) (.seq (.kill [e.a]) (swAll (f :: l))))

def swe0 : SwE := ⟨54, [77, 101, 109, 84, 111, 116, 97, 108, 58], 0, some 55, [77, 101, 109, 84, 111, 116, 97, 108]⟩
def swe1 : SwE := ⟨58, [77, 101, 109, 70, 114, 101, 101, 58], 1, some 56, [77, 101, 109, 70, 114, 101, 101]⟩
def swe2 : SwE := ⟨62, [77, 101, 109, 65, 118, 97, 105, 108, 97, 98, 108, 101, 58], 2, some 57, [77, 101, 109, 65, 118, 97, 105, 108, 97, 98, 108, 101]⟩
def swe3 : SwE := ⟨66, [66, 117, 102, 102, 101, 114, 115, 58], 3, some 58, [66, 117, 102, 102, 101, 114, 115]⟩
def swe4 : SwE := ⟨70, [67, 97, 99, 104, 101, 100, 58], 4, some 59, [67, 97, 99, 104, 101, 100]⟩
def swe5 : SwE := ⟨74, [83, 119, 97, 112, 67, 97, 99, 104, 101, 100, 58], 5, some 60, [83, 119, 97, 112, 67, 97, 99, 104, 101, 100]⟩
def swe6 : SwE := ⟨78, [65, 99, 116, 105, 118, 101, 58], 6, some 61, [65, 99, 116, 105, 118, 101]⟩
def swe7 : SwE := ⟨82, [73, 110, 97, 99, 116, 105, 118, 101, 58], 7, some 62, [73, 110, 97, 99, 116, 105, 118, 101]⟩
def swe8 : SwE := ⟨86, [65, 99, 116, 105, 118, 101, 40, 97, 110, 111, 110, 41, 58], 8, some 63, [65, 99, 116, 105, 118, 101, 65, 110, 111, 110]⟩
def swe9 : SwE := ⟨90, [73, 110, 97, 99, 116, 105, 118, 101, 40, 97, 110, 111, 110, 41, 58], 9, some 64, [73, 110, 97, 99, 116, 105, 118, 101, 65, 110, 111, 110]⟩
def swe10 : SwE := ⟨94, [65, 99, 116, 105, 118, 101, 40, 102, 105, 108, 101, 41, 58], 10, some 65, [65, 99, 116, 105, 118, 101, 70, 105, 108, 101]⟩
def swe11 : SwE := ⟨98, [73, 110, 97, 99, 116, 105, 118, 101, 40, 102, 105, 108, 101, 41, 58], 11, some 66, [73, 110, 97, 99, 116, 105, 118, 101, 70, 105, 108, 101]⟩
def swe12 : SwE := ⟨102, [85, 110, 101, 118, 105, 99, 116, 97, 98, 108, 101, 58], 12, some 67, [85, 110, 101, 118, 105, 99, 116, 97, 98, 108, 101]⟩
def swe13 : SwE := ⟨106, [77, 108, 111, 99, 107, 101, 100, 58], 13, some 68, [77, 108, 111, 99, 107, 101, 100]⟩
def swe14 : SwE := ⟨110, [83, 119, 97, 112, 84, 111, 116, 97, 108, 58], 14, some 69, [83, 119, 97, 112, 84, 111, 116, 97, 108]⟩
def swe15 : SwE := ⟨114, [83, 119, 97, 112, 70, 114, 101, 101, 58], 15, some 70, [83, 119, 97, 112, 70, 114, 101, 101]⟩
def swe16 : SwE := ⟨118, [90, 115, 119, 97, 112, 58], 16, some 71, [90, 115, 119, 97, 112]⟩
def swe17 : SwE := ⟨122, [90, 115, 119, 97, 112, 112, 101, 100, 58], 17, some 72, [90, 115, 119, 97, 112, 112, 101, 100]⟩
def swe18 : SwE := ⟨126, [68, 105, 114, 116, 121, 58], 18, some 73, [68, 105, 114, 116, 121]⟩
def swe19 : SwE := ⟨130, [87, 114, 105, 116, 101, 98, 97, 99, 107, 58], 19, some 74, [87, 114, 105, 116, 101, 98, 97, 99, 107]⟩
def swe20 : SwE := ⟨134, [65, 110, 111, 110, 80, 97, 103, 101, 115, 58], 20, some 75, [65, 110, 111, 110, 80, 97, 103, 101, 115]⟩
def swe21 : SwE := ⟨138, [77, 97, 112, 112, 101, 100, 58], 21, some 76, [77, 97, 112, 112, 101, 100]⟩
def swe22 : SwE := ⟨142, [83, 104, 109, 101, 109, 58], 22, some 77, [83, 104, 109, 101, 109]⟩
def swe23 : SwE := ⟨146, [83, 108, 97, 98, 58], 23, some 78, [83, 108, 97, 98]⟩
def swe24 : SwE := ⟨150, [83, 82, 101, 99, 108, 97, 105, 109, 97, 98, 108, 101, 58], 24, some 79, [83, 82, 101, 99, 108, 97, 105, 109, 97, 98, 108, 101]⟩
def swe25 : SwE := ⟨154, [83, 85, 110, 114, 101, 99, 108, 97, 105, 109, 58], 25, some 80, [83, 85, 110, 114, 101, 99, 108, 97, 105, 109]⟩
def swe26 : SwE := ⟨158, [75, 101, 114, 110, 101, 108, 83, 116, 97, 99, 107, 58], 26, some 81, [75, 101, 114, 110, 101, 108, 83, 116, 97, 99, 107]⟩
def swe27 : SwE := ⟨162, [80, 97, 103, 101, 84, 97, 98, 108, 101, 115, 58], 27, some 82, [80, 97, 103, 101, 84, 97, 98, 108, 101, 115]⟩
def swe28 : SwE := ⟨166, [83, 101, 99, 80, 97, 103, 101, 84, 97, 98, 108, 101, 115, 58], 28, some 83, [83, 101, 99, 80, 97, 103, 101, 84, 97, 98, 108, 101, 115]⟩
def swe29 : SwE := ⟨170, [78, 70, 83, 95, 85, 110, 115, 116, 97, 98, 108, 101, 58], 29, some 84, [78, 70, 83, 85, 110, 115, 116, 97, 98, 108, 101]⟩
def swe30 : SwE := ⟨174, [66, 111, 117, 110, 99, 101, 58], 30, some 85, [66, 111, 117, 110, 99, 101]⟩
def swe31 : SwE := ⟨178, [87, 114, 105, 116, 101, 98, 97, 99, 107, 84, 109, 112, 58], 31, some 86, [87, 114, 105, 116, 101, 98, 97, 99, 107, 84, 109, 112]⟩
def swe32 : SwE := ⟨182, [67, 111, 109, 109, 105, 116, 76, 105, 109, 105, 116, 58], 32, some 87, [67, 111, 109, 109, 105, 116, 76, 105, 109, 105, 116]⟩
def swe33 : SwE := ⟨186, [67, 111, 109, 109, 105, 116, 116, 101, 100, 95, 65, 83, 58], 33, some 88, [67, 111, 109, 109, 105, 116, 116, 101, 100, 65, 83]⟩
def swe34 : SwE := ⟨190, [86, 109, 97, 108, 108, 111, 99, 84, 111, 116, 97, 108, 58], 34, some 89, [86, 109, 97, 108, 108, 111, 99, 84, 111, 116, 97, 108]⟩
def swe35 : SwE := ⟨194, [86, 109, 97, 108, 108, 111, 99, 85, 115, 101, 100, 58], 35, some 90, [86, 109, 97, 108, 108, 111, 99, 85, 115, 101, 100]⟩
def swe36 : SwE := ⟨198, [86, 109, 97, 108, 108, 111, 99, 67, 104, 117, 110, 107, 58], 36, some 91, [86, 109, 97, 108, 108, 111, 99, 67, 104, 117, 110, 107]⟩
def swe37 : SwE := ⟨202, [80, 101, 114, 99, 112, 117, 58], 37, some 92, [80, 101, 114, 99, 112, 117]⟩
def swe38 : SwE := ⟨206, [72, 97, 114, 100, 119, 97, 114, 101, 67, 111, 114, 114, 117, 112, 116, 101, 100, 58], 38, some 93, [72, 97, 114, 100, 119, 97, 114, 101, 67, 111, 114, 114, 117, 112, 116, 101, 100]⟩
def swe39 : SwE := ⟨210, [65, 110, 111, 110, 72, 117, 103, 101, 80, 97, 103, 101, 115, 58], 39, some 94, [65, 110, 111, 110, 72, 117, 103, 101, 80, 97, 103, 101, 115]⟩
def swe40 : SwE := ⟨214, [70, 105, 108, 101, 72, 117, 103, 101, 80, 97, 103, 101, 115, 58], 40, some 95, [70, 105, 108, 101, 72, 117, 103, 101, 80, 97, 103, 101, 115]⟩
def swe41 : SwE := ⟨218, [83, 104, 109, 101, 109, 72, 117, 103, 101, 80, 97, 103, 101, 115, 58], 41, some 96, [83, 104, 109, 101, 109, 72, 117, 103, 101, 80, 97, 103, 101, 115]⟩
def swe42 : SwE := ⟨222, [83, 104, 109, 101, 109, 80, 109, 100, 77, 97, 112, 112, 101, 100, 58], 42, some 97, [83, 104, 109, 101, 109, 80, 109, 100, 77, 97, 112, 112, 101, 100]⟩
def swe43 : SwE := ⟨226, [67, 109, 97, 84, 111, 116, 97, 108, 58], 43, some 98, [67, 109, 97, 84, 111, 116, 97, 108]⟩
def swe44 : SwE := ⟨230, [67, 109, 97, 70, 114, 101, 101, 58], 44, some 99, [67, 109, 97, 70, 114, 101, 101]⟩
def swe45 : SwE := ⟨234, [85, 110, 97, 99, 99, 101, 112, 116, 101, 100, 58], 45, some 100, [85, 110, 97, 99, 99, 101, 112, 116, 101, 100]⟩
def swe46 : SwE := ⟨238, [72, 117, 103, 101, 80, 97, 103, 101, 115, 95, 84, 111, 116, 97, 108, 58], 46, none, [72, 117, 103, 101, 80, 97, 103, 101, 115, 84, 111, 116, 97, 108]⟩
def swe47 : SwE := ⟨241, [72, 117, 103, 101, 80, 97, 103, 101, 115, 95, 70, 114, 101, 101, 58], 47, none, [72, 117, 103, 101, 80, 97, 103, 101, 115, 70, 114, 101, 101]⟩
def swe48 : SwE := ⟨244, [72, 117, 103, 101, 80, 97, 103, 101, 115, 95, 82, 115, 118, 100, 58], 48, none, [72, 117, 103, 101, 80, 97, 103, 101, 115, 82, 115, 118, 100]⟩
def swe49 : SwE := ⟨247, [72, 117, 103, 101, 80, 97, 103, 101, 115, 95, 83, 117, 114, 112, 58], 49, none, [72, 117, 103, 101, 80, 97, 103, 101, 115, 83, 117, 114, 112]⟩
def swe50 : SwE := ⟨250, [72, 117, 103, 101, 112, 97, 103, 101, 115, 105, 122, 101, 58], 50, some 101, [72, 117, 103, 101, 112, 97, 103, 101, 115, 105, 122, 101]⟩
def swe51 : SwE := ⟨254, [72, 117, 103, 101, 116, 108, 98, 58], 51, some 102, [72, 117, 103, 101, 116, 108, 98]⟩
def swe52 : SwE := ⟨258, [68, 105, 114, 101, 99, 116, 77, 97, 112, 52, 107, 58], 52, some 103, [68, 105, 114, 101, 99, 116, 77, 97, 112, 52, 107]⟩
def swe53 : SwE := ⟨262, [68, 105, 114, 101, 99, 116, 77, 97, 112, 50, 77, 58], 53, some 104, [68, 105, 114, 101, 99, 116, 77, 97, 112, 50, 77]⟩
def swe54 : SwE := ⟨266, [68, 105, 114, 101, 99, 116, 77, 97, 112, 49, 71, 58], 54, some 105, [68, 105, 114, 101, 99, 116, 77, 97, 112, 49, 71]⟩
def swData : List SwE := [swe0, swe1, swe2, swe3, swe4, swe5, swe6, swe7, swe8, swe9, swe10, swe11, swe12, swe13, swe14, swe15, swe16, swe17, swe18, swe19, swe20, swe21, swe22, swe23, swe24, swe25, swe26, swe27, swe28, swe29, swe30, swe31, swe32, swe33, swe34, swe35, swe36, swe37, swe38, swe39, swe40, swe41, swe42, swe43, swe44, swe45, swe46, swe47, swe48, swe49, swe50, swe51, swe52, swe53, swe54]

def stSw (s : List UInt8) (C : List Cell) (Z : Box) (K : List Box) (i j : Nat) (D : List Nat) : SA := { nt := 270, tm := [(53, .sv (.str s)), (8, .ptr (j + 2) 0), (7, .ptr (i + 2) 0), (5, .ptr 1 0), (4, .ptr 0 0)], lz := none, bx := .live C :: Z :: K, df := D }
def enSw (C : List Cell) (Z : Box) (K : List Box) (D : List Nat) : SA := { nt := 270, tm := [(5, .ptr 1 0), (4, .ptr 0 0)], lz := none, bx := .live C :: Z :: K, df := D }

def okSw (e : SwE) : Prop := 53 < e.a ∧ e.a < 267 ∧ e.p < 106 ∧ ∀ q ∈ e.q, q < 106

set_option maxHeartbeats 4000000 in
theorem swMiss (E : Env) (cf : CallF) (m : Nat) (e f : SwE) (l : List SwE) (he : okSw e) (s : List UInt8) (hs : s ≠ e.lab) (C : List Cell) (Z : Box) (K : List Box) (i j : Nat) (D : List Nat) :
    evCA E cf m (swAll (e :: f :: l)) (stSw s C Z K i j D) = evCA E cf m (swAll (f :: l)) (stSw s C Z K i j D) := by
  obtain ⟨a, lab, p, q, nm⟩ := e
  obtain ⟨h1, h2, _, _⟩ := he
  simp only at h1 h2 hs
  have hb : (s == lab) = false := by simpa using hs
  have n1 : a < 270 := by omega
  have n2 : a + 1 < 270 := by omega
  have n3 : a < 269 := by omega
  have n4 : 53 < a + 1 := by omega
  have m0 : ¬ a = 53 := by omega
  have m1 : ¬ a = 52 := by omega
  have m2 : ¬ 53 = a := by omega
  have m3 : ¬ 53 = a + 1 := by omega
  have m4 : ¬ a = 8 := by omega
  have m5 : ¬ a = 7 := by omega
  have m6 : ¬ a = 6 := by omega
  have m7 : ¬ a = 5 := by omega
  have m8 : ¬ a = 4 := by omega
  have m9 : ¬ a = 3 := by omega
  have k1 : ¬ 8 = a := by omega
  have k2 : ¬ 7 = a := by omega
  have k3 : ¬ 5 = a := by omega
  have k4 : ¬ 4 = a := by omega
  have k5 : ¬ 8 = a + 1 := by omega
  have k6 : ¬ 7 = a + 1 := by omega
  have k7 : ¬ 5 = a + 1 := by omega
  have k8 : ¬ 4 = a + 1 := by omega
  have x1 : ¬ a + 1 < a := by omega
  have x2 : ¬ a = 2 := by omega
  have x3 : ¬ a = 1 := by omega
  have x4 : a + 2 < 270 := by omega
  have x5 : a + 3 < 270 := by omega
  have x6 : 8 < a + 2 := by omega
  have x7 : 7 < a + 3 := by omega
  have x8 : 8 < a + 3 := by omega
  have x9 : 5 < a + 3 := by omega
  have y1 : 7 < a + 2 := by omega
  have y2 : 5 < a + 2 := by omega
  have y3 : ¬ a = 0 := by omega
  rw [swAll]
  generalize swAll (f :: l) = R
  generalize hq : (match (⟨a, lab, p, q, nm⟩ : SwE).q with
      | some q => ACode.seq (.kill [53, a]) (.seq (swP a p) (swQ a q))
      | none => ACode.seq (.kill [8, 53, a]) (swP a p)) = Q
  simp [swT, stSw, n1, n2, n3, n4, m0, m1, m2, m3, m4, m5, m6, m7, m8, m9, k1, k2, k3, k4, k5, k6, k7, k8, x1, x2, x3, x4, x5, x6, x7, x8, x9, y1, y2, y3, h1, hs, hb]

theorem getD_some {α : Type} (x d : α) : (some x).getD d = x := rfl

set_option maxHeartbeats 8000000 in
theorem swHitQ {nm : List UInt8} (E : Env) (cf : CallF) (m : Nat) (a : Nat) (s : List UInt8) (p q : Nat) (l : List SwE) (he : okSw ⟨a, s, p, some q, nm⟩) (C : List Cell) (hC : C.length = 106) (Z : Box) (K : List Box) (i j : Nat) (hij : i ≠ j) (v u : Int) (hi : K[i]? = some (.live [.sv (.int .u64 v)])) (hj : K[j]? = some (.live [.sv (.int .u64 u)])) (D : List Nat) :
    evCA E cf m (swAll (⟨a, s, p, some q, nm⟩ :: l)) (stSw s C Z K i j D) = some (.normal, enSw ((C.set p (.sv (.ref [.int .u64 v]))).set q (.sv (.ref [.int .u64 u]))) Z ((K.set i (.frz [.int .u64 v])).set j (.frz [.int .u64 u])) D) := by
  obtain ⟨h1, h2, hp, hq⟩ := he
  have hq := hq q rfl
  simp only at h1 h2 hp
  have n1 : a < 270 := by omega
  have n2 : a + 1 < 270 := by omega
  have n3 : a < 269 := by omega
  have n4 : 53 < a + 1 := by omega
  have m0 : ¬ a = 53 := by omega
  have m1 : ¬ a = 52 := by omega
  have m2 : ¬ 53 = a := by omega
  have m3 : ¬ 53 = a + 1 := by omega
  have m4 : ¬ a = 8 := by omega
  have m5 : ¬ a = 7 := by omega
  have m6 : ¬ a = 6 := by omega
  have m7 : ¬ a = 5 := by omega
  have m8 : ¬ a = 4 := by omega
  have m9 : ¬ a = 3 := by omega
  have k1 : ¬ 8 = a := by omega
  have k2 : ¬ 7 = a := by omega
  have k3 : ¬ 5 = a := by omega
  have k4 : ¬ 4 = a := by omega
  have k5 : ¬ 8 = a + 1 := by omega
  have k6 : ¬ 7 = a + 1 := by omega
  have k7 : ¬ 5 = a + 1 := by omega
  have k8 : ¬ 4 = a + 1 := by omega
  have x1 : ¬ a + 1 < a := by omega
  have x2 : ¬ a = 2 := by omega
  have x3 : ¬ a = 1 := by omega
  have x4 : a + 2 < 270 := by omega
  have x5 : a + 3 < 270 := by omega
  have x6 : 8 < a + 2 := by omega
  have x7 : 7 < a + 3 := by omega
  have x8 : 8 < a + 3 := by omega
  have x9 : 5 < a + 3 := by omega
  have y1 : 7 < a + 2 := by omega
  have y2 : 5 < a + 2 := by omega
  have y3 : ¬ a = 0 := by omega
  have g1 : p < C.length := by omega
  have g2 : q < C.length := by omega
  cases l with
  | nil =>
    rw [swAll]
    simp only [getD_some]
    simp [swT, swP, swQ, stSw, enSw, n1, n2, n3, n4, m0, m1, m2, m3, m4, m5, m6, m7, m8, m9, k1, k2, k3, k4, k5, k6, k7, k8, x1, x2, x3, x4, x5, x6, x7, x8, x9, y1, y2, y3, h1, hi, hj, hij, g1, g2]
  | cons f l =>
    rw [swAll]
    generalize swAll (f :: l) = R
    simp [swT, swP, swQ, stSw, enSw, n1, n2, n3, n4, m0, m1, m2, m3, m4, m5, m6, m7, m8, m9, k1, k2, k3, k4, k5, k6, k7, k8, x1, x2, x3, x4, x5, x6, x7, x8, x9, y1, y2, y3, h1, hi, hj, hij, g1, g2]

set_option maxHeartbeats 8000000 in
theorem swHitP {nm : List UInt8} (E : Env) (cf : CallF) (m : Nat) (a : Nat) (s : List UInt8) (p : Nat) (f : SwE) (l : List SwE) (he : okSw ⟨a, s, p, none, nm⟩) (C : List Cell) (hC : C.length = 106) (Z : Box) (K : List Box) (i j : Nat) (v : Int) (hi : K[i]? = some (.live [.sv (.int .u64 v)])) (D : List Nat) :
    evCA E cf m (swAll (⟨a, s, p, none, nm⟩ :: f :: l)) (stSw s C Z K i j D) = some (.normal, enSw (C.set p (.sv (.ref [.int .u64 v]))) Z (K.set i (.frz [.int .u64 v])) D) := by
  obtain ⟨h1, h2, hp, _⟩ := he
  simp only at h1 h2 hp
  have n1 : a < 270 := by omega
  have n2 : a + 1 < 270 := by omega
  have n3 : a < 269 := by omega
  have n4 : 53 < a + 1 := by omega
  have m0 : ¬ a = 53 := by omega
  have m1 : ¬ a = 52 := by omega
  have m2 : ¬ 53 = a := by omega
  have m3 : ¬ 53 = a + 1 := by omega
  have m4 : ¬ a = 8 := by omega
  have m5 : ¬ a = 7 := by omega
  have m6 : ¬ a = 6 := by omega
  have m7 : ¬ a = 5 := by omega
  have m8 : ¬ a = 4 := by omega
  have m9 : ¬ a = 3 := by omega
  have k1 : ¬ 8 = a := by omega
  have k2 : ¬ 7 = a := by omega
  have k3 : ¬ 5 = a := by omega
  have k4 : ¬ 4 = a := by omega
  have k5 : ¬ 8 = a + 1 := by omega
  have k6 : ¬ 7 = a + 1 := by omega
  have k7 : ¬ 5 = a + 1 := by omega
  have k8 : ¬ 4 = a + 1 := by omega
  have x1 : ¬ a + 1 < a := by omega
  have x2 : ¬ a = 2 := by omega
  have x3 : ¬ a = 1 := by omega
  have x4 : a + 2 < 270 := by omega
  have x5 : a + 3 < 270 := by omega
  have x6 : 8 < a + 2 := by omega
  have x7 : 7 < a + 3 := by omega
  have x8 : 8 < a + 3 := by omega
  have x9 : 5 < a + 3 := by omega
  have y1 : 7 < a + 2 := by omega
  have y2 : 5 < a + 2 := by omega
  have y3 : ¬ a = 0 := by omega
  have g1 : p < C.length := by omega
  rw [swAll]
  generalize swAll (f :: l) = R
  simp [swT, swP, swQ, stSw, enSw, n1, n2, n3, n4, m0, m1, m2, m3, m4, m5, m6, m7, m8, m9, k1, k2, k3, k4, k5, k6, k7, k8, x1, x2, x3, x4, x5, x6, x7, x8, x9, y1, y2, y3, h1, hi, g1]

end Go.Ev

set_option linter.unusedSimpArgs false
set_option linter.unusedVariables false
namespace Go.Ev
open Go.Proofs

theorem swData_ok0 : ∀ e ∈ swData, 53 < e.a ∧ e.a < 267 ∧ e.p < 106 ∧ e.q.getD 0 < 106 := by decide
theorem swData_ok {e : SwE} (h : e ∈ swData) : okSw e := by
  obtain ⟨h1, h2, h3, h4⟩ := swData_ok0 e h
  refine ⟨h1, h2, h3, fun q hq => ?_⟩
  have hq' : e.q = some q := hq
  rw [hq'] at h4
  exact h4
def memN : List (List UInt8) := memTab.map MemF.name
def memNB : List (List UInt8) := memTabB.map MemF.name
theorem memN_nodup : memN.Nodup := memTab_nodup
theorem memNB_nodup : memNB.Nodup := by decide
theorem memN_len : memN.length = 55 := rfl
theorem memNB_len : memNB.length = 51 := rfl
theorem swData_at : ∀ e ∈ swData, memN[e.p]? = some e.nm ∧ (e.q.isSome = true → 55 ≤ e.q.getD 0 ∧ memNB[e.q.getD 0 - 55]? = some e.nm) ∧ (e.q.isNone = true → e.nm ∉ memNB) := by decide
theorem swData_tab : swData.map (fun e => (e.nm, e.lab, e.q.isNone)) = memTab.map (fun f => (f.name, f.label ++ [58], f.pg)) := by decide
theorem swData_nodup : (swData.map SwE.lab).Nodup := by decide
theorem swData_last : swData.getLast? = some swe54 := rfl

def rfU (n : Nat) : Cell := .sv (.ref [.int .u64 (n : Int)])
def swC (e : SwE) (n : Nat) (C : List Cell) : List Cell := match e.q with
  | some q => (C.set e.p (rfU n)).set q (rfU (1024 * n))
  | none => C.set e.p (rfU n)

theorem swSkip (E : Env) (cf : CallF) (m : Nat) (s : List UInt8) (C : List Cell) (Z : Box) (K : List Box) (i j : Nat) (D : List Nat) (e : SwE) (l : List SwE) :
    ∀ pre : List SwE, (∀ x ∈ pre, okSw x ∧ s ≠ x.lab) → evCA E cf m (swAll (pre ++ e :: l)) (stSw s C Z K i j D) = evCA E cf m (swAll (e :: l)) (stSw s C Z K i j D)
  | [], _ => rfl
  | [x], h => swMiss E cf m x e l (h x (by simp)).1 s (h x (by simp)).2 C Z K i j D
  | x :: y :: pre, h => by
    have := swSkip E cf m s C Z K i j D e l (y :: pre) (fun z hz => h z (by simp at hz ⊢; exact .inr hz))
    rw [← this]
    exact swMiss E cf m x y (pre ++ e :: l) (h x (by simp)).1 s (h x (by simp)).2 C Z K i j D

theorem swRun (E : Env) (cf : CallF) (m : Nat) (f : MemF) (hf : f ∈ memTab) (n : Nat) (C : List Cell) (hC : C.length = 106) (Z : Box) (K : List Box) (i j : Nat) (hij : i ≠ j) (hi : K[i]? = some (.live [.sv (.int .u64 (n : Int))])) (u : Int) (hu : f.pg = false → u = ((1024 * n : Nat) : Int)) (hj : K[j]? = some (.live [.sv (.int .u64 u)])) (D : List Nat) :
    ∃ e K', e ∈ swData ∧ e.nm = f.name ∧ evCA E cf m (swAll swData) (stSw (f.label ++ [58]) C Z K i j D) = some (.normal, enSw (swC e n C) Z K' D) := by
  have h1 : (f.name, f.label ++ [58], f.pg) ∈ swData.map (fun e => (e.nm, e.lab, e.q.isNone)) := by rw [swData_tab]; exact List.mem_map.2 ⟨f, hf, rfl⟩
  obtain ⟨e, he, hee⟩ := List.mem_map.1 h1
  simp only [Prod.mk.injEq] at hee
  obtain ⟨e1, e2, e3⟩ := hee
  obtain ⟨pre, l, hsp⟩ := List.append_of_mem he
  have hnd := swData_nodup
  rw [hsp, List.map_append, List.map_cons] at hnd
  have hpre : ∀ x ∈ pre, okSw x ∧ f.label ++ [58] ≠ x.lab := by
    intro x hx
    refine ⟨swData_ok (by rw [hsp]; simp [hx]), fun hh => ?_⟩
    rw [← e2] at hh
    exact (List.nodup_append.1 hnd).2.2 x.lab (List.mem_map.2 ⟨x, hx, rfl⟩) e.lab (by simp) hh.symm
  have hok := swData_ok he
  have hskip := swSkip E cf m (f.label ++ [58]) C Z K i j D e l pre hpre
  rw [← hsp] at hskip
  rw [hskip]
  obtain ⟨a, lab, p, q, nm⟩ := e
  simp only at e1 e2 e3
  subst e2
  cases q with
  | some q =>
    have hpg : f.pg = false := by rw [← e3]; rfl
    have key := swHitQ E cf m a _ p q l hok C hC Z K i j hij (n : Int) u hi hj D
    rw [hu hpg] at key
    exact ⟨_, _, he, e1, key⟩
  | none =>
    cases l with
    | nil =>
      exfalso
      have := swData_last
      rw [hsp, List.getLast?_append, List.getLast?_singleton] at this
      simp [swe54] at this
    | cons g l =>
      exact ⟨_, _, he, e1, swHitP E cf m a _ p g l hok C hC Z K i j (n : Int) hi D⟩

/-! ### What the cells hold -/

def cA (rs : List RowD) (x : List UInt8) : Cell := match numOf rs x with
  | some n => rfU n
  | none => .sv .nilP
def cB (rs : List RowD) (x : List UInt8) : Cell := match numOf rs x with
  | some n => rfU (1024 * n)
  | none => .sv .nilP
def memC (rs : List RowD) : List Cell := memN.map (cA rs) ++ memNB.map (cB rs)

theorem memC_len (rs : List RowD) : (memC rs).length = 106 := by unfold memC; rw [List.length_append, List.length_map, List.length_map, memN_len, memNB_len]

theorem rowOf_snoc : ∀ (rs : List RowD) (r : RowD) (x : List UInt8), rowOf rs r.name = none → rowOf (rs ++ [r]) x = if r.name = x then some r else rowOf rs x
  | [], r, x, _ => by simp [rowOf]
  | q :: rs, r, x, h => by
    unfold rowOf at h
    split at h
    · cases h
    · rename_i hne
      have ih := rowOf_snoc rs r x h
      rw [List.cons_append]
      unfold rowOf
      rw [ih]
      by_cases h2 : q.name = x
      · simp only [h2, if_true]
        rw [if_neg (fun hh => hne (by rw [h2, hh]))]
      · simp only [h2, if_false]

theorem numOf_snoc (rs : List RowD) (nm : List UInt8) (n : Nat) (x : List UInt8) (h : rowOf rs nm = none) : numOf (rs ++ [⟨nm, [n], []⟩]) x = if nm = x then some n else numOf rs x := by
  unfold numOf
  rw [rowOf_snoc rs ⟨nm, [n], []⟩ x h]
  simp only
  split <;> rfl

theorem memC_snoc {e : SwE} (he : e ∈ swData) (rs : List RowD) (n : Nat) (h : rowOf rs e.nm = none) : swC e n (memC rs) = memC (rs ++ [⟨e.nm, [n], []⟩]) := by
  obtain ⟨h1, h2, h3⟩ := swData_at e he
  have hp : e.p < (memN.map (cA rs)).length := by rw [List.length_map]; exact (List.getElem?_eq_some_iff.1 h1).1
  have eA : (memN.map (cA rs)).set e.p (rfU n) = memN.map (cA (rs ++ [⟨e.nm, [n], []⟩])) := by
    rw [map_set_at memN_nodup h1]
    refine List.map_congr_left fun x _ => ?_
    unfold cA
    rw [numOf_snoc rs e.nm n x h]
    by_cases hx : e.nm = x <;> simp only [hx, if_true, if_false]
  unfold swC memC
  cases hq : e.q with
  | some q =>
    rw [hq] at h2
    obtain ⟨g1, g2⟩ := h2 rfl
    simp only [Option.getD_some] at g1 g2
    have eB : (memNB.map (cB rs)).set (q - 55) (rfU (1024 * n)) = memNB.map (cB (rs ++ [⟨e.nm, [n], []⟩])) := by
      rw [map_set_at memNB_nodup g2]
      refine List.map_congr_left fun x _ => ?_
      unfold cB
      rw [numOf_snoc rs e.nm n x h]
      by_cases hx : e.nm = x <;> simp only [hx, if_true, if_false]
    simp only
    rw [List.set_append_left _ _ hp, eA, List.set_append_right _ _ (by rw [List.length_map, memN_len]; exact g1), List.length_map, memN_len, eB]
  | none =>
    rw [hq] at h3
    have h3 := h3 rfl
    simp only
    rw [List.set_append_left _ _ hp, eA]
    congr 1
    refine List.map_congr_left fun x hx => ?_
    unfold cB
    rw [numOf_snoc rs e.nm n x h, if_neg (fun hh => h3 (by rw [hh]; exact hx))]

end Go.Ev
