/- What the listed variables hold, in the evaluator's words. -/
import Derived.Test.YtkpjijiiegdcaaaGreatDoorMbb
import Derived.ProofKit
import Derived.OpenShut
import Derived.LaidMore
set_option linter.unusedSimpArgs false
set_option linter.unusedVariables false
namespace Go.Proofs.YtkpjijiiegdcaaaGreatDoor
open Go.ChangeShapes Go.WideShapes Go.ChangeAt Go.RowKit Go.Ev

theorem own : ownKnob Tryz.prog.godebug = none := by kernel_rfl

def laid15 : List (String × DataW Unit) := Rows.fnMeminfoBackRow.laid

theorem glob_none {W : World} {F : Frz} (g : Nat) (h : globT g = []) : RepS F (.ref (globT g)) (.pointer (some ⟨g, 0, none⟩)) := by
  rw [h]
  exact .ref [] g 0 (fun _ => undef) (fun j hj => by simp at hj) (fun j x hx => by simp at hx) (fun j x hx => by simp at hx)

theorem cells_of {W : World} {name : String} {g : Nat} {cs : Array Value} (hg : Tryz.prog.globalNamed name = some g) (hv : W.var? Tryz.prog name = some cs) (j : Nat) (v : Value) (h : cs.toList[j]? = some v) : W.cell? ⟨g, j, none⟩ = some v := by
  rw [World.var?_cell hg hv j]
  simpa using h

theorem glob_ok {W : World} (hL : laidMetH Tryz.prog laid15 W) : GlobF E0 (fun b o v => W.cell? ⟨b, o, none⟩ = some v) := by
  rw [MakeChecks.laidMetH_plain _ _ _ (by kernel_rfl)] at hL
  obtain ⟨ps, ⟨g0, t0, cs0, f0, p0, q0, hg0, ht0, hv0, hd0, ⟨g1, t1, cs1, f1, p1, q1, hg1, ht1, hv1, hd1, ⟨g2, t2, cs2, f2, p2, q2, hg2, ht2, hv2, hd2, ⟨g3, t3, cs3, f3, p3, q3, hg3, ht3, hv3, hd3, ⟨g4, t4, cs4, f4, p4, q4, hg4, ht4, hv4, hd4, ⟨g5, t5, cs5, f5, p5, q5, hg5, ht5, hv5, hd5, ⟨g6, t6, cs6, f6, p6, q6, hg6, ht6, hv6, hd6, ⟨g7, t7, cs7, f7, p7, q7, hg7, ht7, hv7, hd7, ⟨g8, t8, cs8, f8, p8, q8, hg8, ht8, hv8, hd8, ⟨g9, t9, cs9, f9, p9, q9, hg9, ht9, hv9, hd9, ⟨g10, t10, cs10, f10, p10, q10, hg10, ht10, hv10, hd10, ⟨g11, t11, cs11, f11, p11, q11, hg11, ht11, hv11, hd11, ⟨g12, t12, cs12, f12, p12, q12, hg12, ht12, hv12, hd12, _, _⟩, _⟩, _⟩, _⟩, _⟩, _⟩, _⟩, _⟩, _⟩, _⟩, _⟩, _⟩, _⟩, _⟩ := hL
  clear hd0 hd1 hd5 hd7 hd9 hd10 hd11
  obtain rfl := Option.some.inj ((show Tryz.prog.globalNamed "internal/strconv.float32info" = some 7 by kernel_rfl).symm.trans hg2)
  obtain rfl := Option.some.inj ((show Tryz.prog.globalNamed "internal/strconv.float64info" = some 9 by kernel_rfl).symm.trans hg3)
  obtain rfl := Option.some.inj ((show Tryz.prog.globalNamed "internal/strconv.optimize" = some 8 by kernel_rfl).symm.trans hg4)
  obtain rfl := Option.some.inj ((show Tryz.prog.globalNamed "internal/strconv.float64pow10" = some 12 by kernel_rfl).symm.trans hg6)
  obtain rfl := Option.some.inj ((show Tryz.prog.globalNamed "internal/strconv.uint64pow10" = some 13 by kernel_rfl).symm.trans hg8)
  obtain rfl := Option.some.inj ((show Tryz.prog.globalNamed "strings.asciiSpace" = some 1 by kernel_rfl).symm.trans hg12)
  obtain rfl := Option.some.inj ((show (Tryz.prog.globals[7]?).map (·.type) = some 197 by kernel_rfl).symm.trans ht2)
  obtain rfl := Option.some.inj ((show (Tryz.prog.globals[9]?).map (·.type) = some 197 by kernel_rfl).symm.trans ht3)
  obtain rfl := Option.some.inj ((show (Tryz.prog.globals[8]?).map (·.type) = some 4 by kernel_rfl).symm.trans ht4)
  obtain rfl := Option.some.inj ((show (Tryz.prog.globals[12]?).map (·.type) = some 151 by kernel_rfl).symm.trans ht6)
  obtain rfl := Option.some.inj ((show (Tryz.prog.globals[13]?).map (·.type) = some 237 by kernel_rfl).symm.trans ht8)
  obtain rfl := Option.some.inj ((show (Tryz.prog.globals[1]?).map (·.type) = some 139 by kernel_rfl).symm.trans ht12)
  have x12 : Rows.laid_strings_asciiSpace = (.agg ((lits Rows.laid_strings_asciiSpace).map .lit) : DataW Unit) := by kernel_rfl
  have x8 : Rows.laid_internal_strconv_uint64pow10 = (.agg ((lits Rows.laid_internal_strconv_uint64pow10).map .lit) : DataW Unit) := by kernel_rfl
  have x2 : Rows.laid_internal_strconv_float32info = (.agg ((lits Rows.laid_internal_strconv_float32info).map .lit) : DataW Unit) := by kernel_rfl
  have x3 : Rows.laid_internal_strconv_float64info = (.agg ((lits Rows.laid_internal_strconv_float64info).map .lit) : DataW Unit) := by kernel_rfl
  have x4 : Rows.laid_internal_strconv_optimize = (.lit (unlit Rows.laid_internal_strconv_optimize) : DataW Unit) := by kernel_rfl
  have x6 : Rows.laid_internal_strconv_float64pow10 = (.slice ((lits Rows.laid_internal_strconv_float64pow10).map .lit) [] : DataW Unit) := by kernel_rfl
  have y12 := (congrArg (fun d => some (d, p12)) x12)
  have k12 := lits_of_array (e := 5) (n := 256) Tryz.underlying139 (by kernel_rfl) (by kernel_rfl) (hd12.trans (congrArg (fun d => some (d, p12)) x12))
  have k8 := lits_of_array (e := 39) (n := 20) Tryz.underlying237 (by kernel_rfl) (by kernel_rfl) (hd8.trans (congrArg (fun d => some (d, p8)) x8))
  have hst : ∀ (i : Nat) (f : Field), (#[{ name := "mantbits", type := 159, offset := 0, embedded := false, tag := "", pkgPath := "internal/strconv", byteOffset := 0 }, { name := "expbits", type := 159, offset := 1, embedded := false, tag := "", pkgPath := "internal/strconv", byteOffset := 8 }, { name := "bias", type := 3, offset := 2, embedded := false, tag := "", pkgPath := "internal/strconv", byteOffset := 16 }] : Array Field)[i]? = some f → f.offset = i ∧ Tryz.prog.cellsOf f.type = 1 := by
    intro i f hf
    have ct174 : Tryz.prog.cellsOf 159 = 1 := by kernel_rfl
    have ct3 : Tryz.prog.cellsOf 3 = 1 := by kernel_rfl
    match i, hf with
    | 0, hf => simp at hf; subst hf; exact ⟨rfl, ct174⟩
    | 1, hf => simp at hf; subst hf; exact ⟨rfl, ct174⟩
    | 2, hf => simp at hf; subst hf; exact ⟨rfl, ct3⟩
    | n + 3, hf => simp at hf
  have k2 := lits_of_struct Tryz.underlying197 hst (by kernel_rfl) (hd2.trans (congrArg (fun d => some (d, p2)) x2))
  have k3 := lits_of_struct Tryz.underlying197 hst (by kernel_rfl) (hd3.trans (congrArg (fun d => some (d, p3)) x3))
  have k4 := lit_cells (hd4.trans (congrArg (fun d => some (d, p4)) x4))
  have k6 := ref_of_slice (g := 12) (F := fun b o v => W.cell? ⟨b, o, none⟩ = some v) (e := 40) Tryz.underlying151 (by kernel_rfl) (by rw [← List.length_pos_iff]; exact of_decide_eq_true (by kernel_rfl)) (hd6.trans (congrArg (fun d => some (d, p6)) x6)) (fun _ _ _ h => h) (cells_of hg6 hv6)
  intro g
  have hg : g = 1 ∨ g = 7 ∨ g = 8 ∨ g = 9 ∨ g = 13 ∨ g = 12 ∨ globT g = [] := by
    unfold globT
    split <;> simp
  rcases hg with rfl | rfl | rfl | rfl | rfl | rfl | h
  · exact ref_of_lits k12 (cells_of hg12 hv12)
  · exact ref_of_lits k2 (cells_of hg2 hv2)
  · exact ref_of_lits (ls := [unlit Rows.laid_internal_strconv_optimize]) k4 (cells_of hg4 hv4)
  · exact ref_of_lits k3 (cells_of hg3 hv3)
  · exact ref_of_lits k8 (cells_of hg8 hv8)
  · exact k6
  · exact glob_none (W := W) g h

end Go.Proofs.YtkpjijiiegdcaaaGreatDoor
