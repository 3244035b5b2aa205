/-
  What the rows of this seat lay: five errors and a table.
-/
import Derived.Test.YtbjbmpcgiokdaaaDoorFrame
set_option linter.unusedVariables false
set_option linter.unusedSimpArgs false
namespace Go.Eng
open Go Go.Proofs Go.Proofs.YtbjbmpcgiokdaaaDoor Go.ChangeShapes Go.WideShapes Go.RowKit
set_option maxRecDepth 100000

theorem gn0 : Tryd.prog.globalNamed "io.ErrShortBuffer" = some 4 := by kernel_rfl
theorem gn1 : Tryd.prog.globalNamed "io.EOF" = some 0 := by kernel_rfl
theorem gn2 : Tryd.prog.globalNamed "io.ErrUnexpectedEOF" = some 3 := by kernel_rfl
theorem gn4 : Tryd.prog.globalNamed "gzipfiles/pub/gogzip.ErrChecksum" = some 2 := by kernel_rfl
theorem gn5 : Tryd.prog.globalNamed "gzipfiles/pub/gogzip.ErrHeader" = some 1 := by kernel_rfl
theorem gt0 : (Tryd.prog.globals[4]?).map (·.type) = some 59 := by kernel_rfl
theorem gt1 : (Tryd.prog.globals[0]?).map (·.type) = some 59 := by kernel_rfl
theorem gt2 : (Tryd.prog.globals[3]?).map (·.type) = some 59 := by kernel_rfl
theorem gt4 : (Tryd.prog.globals[2]?).map (·.type) = some 59 := by kernel_rfl
theorem gt5 : (Tryd.prog.globals[1]?).map (·.type) = some 59 := by kernel_rfl

theorem laid_skip {W : World} {n : String} {d : DataW Unit} {r : List (String × DataW Unit)} {ps : List MemPlace} (h : DataW.LaidVars Tryd.prog W ((n, d) :: r) ps) : ∃ p q, DataW.LaidVars Tryd.prog W r q ∧ ps = p ++ q := by
  obtain ⟨g, t, cs, fuel, p, q, _, _, _, _, hr, rfl⟩ := h
  exact ⟨_, q, hr, rfl⟩

def eaOf (a0 a1 a2 a3 a4 : Addr) (k : Fin 5) : Addr := match k with
  | 0 => a0
  | 1 => a1
  | 2 => a2
  | 3 => a3
  | 4 => a4

theorem laid_sents {W : World} (h : laidMetH Tryd.prog Rows.fnHeaderTakesItsBytesRow.laid W) : ∃ ea, Sents (fun b => W.heap[b]?) ea := by
  have h' : laidMet Tryd.prog [("io.ErrShortBuffer", Rows.laid_io_ErrShortBuffer), ("io.EOF", Rows.laid_io_EOF), ("io.ErrUnexpectedEOF", Rows.laid_io_ErrUnexpectedEOF), ("gzipfiles/pub/flate.codeOrder", Rows.laid_gzipfiles_pub_flate_codeOrder), ("gzipfiles/pub/gogzip.ErrChecksum", Rows.laid_gzipfiles_pub_gogzip_ErrChecksum), ("gzipfiles/pub/gogzip.ErrHeader", Rows.laid_gzipfiles_pub_gogzip_ErrHeader)] W := h
  obtain ⟨ps, w0, hnd, hrows⟩ := h'
  obtain ⟨a0, q0, c0, w1, rfl⟩ := laid_err gn0 gt0 w0 hrows
  obtain ⟨a1, q1, c1, w2, rfl⟩ := laid_err gn1 gt1 w1 fun b off hb => hrows b off (by simp [hb])
  obtain ⟨a2, q2, c2, w3, rfl⟩ := laid_err gn2 gt2 w2 fun b off hb => hrows b off (by simp [hb])
  obtain ⟨p3, q3, w4, rfl⟩ := laid_skip w3
  obtain ⟨a4, q4, c4, w5, rfl⟩ := laid_err gn4 gt4 w4 fun b off hb => hrows b off (by simp [hb])
  obtain ⟨a5, q5, c5, w6, rfl⟩ := laid_err gn5 gt5 w5 fun b off hb => hrows b off (by simp [hb])
  have k0 := (hrows a0.block a0.off (by simp [MemPlace.row])).1
  have k1 := (hrows a1.block a1.off (by simp [MemPlace.row])).1
  have k2 := (hrows a2.block a2.off (by simp [MemPlace.row])).1
  have k4 := (hrows a4.block a4.off (by simp [MemPlace.row])).1
  have k5 := (hrows a5.block a5.off (by simp [MemPlace.row])).1
  have n15 : a1 ≠ a5 := by rintro rfl; simp [MemPlace.row, List.nodup_append] at hnd
  have n14 : a1 ≠ a4 := by rintro rfl; simp [MemPlace.row, List.nodup_append] at hnd
  have n12 : a1 ≠ a2 := by rintro rfl; simp [MemPlace.row, List.nodup_append] at hnd
  have n10 : a0 ≠ a1 := by rintro rfl; simp [MemPlace.row, List.nodup_append] at hnd
  have n54 : a4 ≠ a5 := by rintro rfl; simp [MemPlace.row, List.nodup_append] at hnd
  have n52 : a2 ≠ a5 := by rintro rfl; simp [MemPlace.row, List.nodup_append] at hnd
  have n50 : a0 ≠ a5 := by rintro rfl; simp [MemPlace.row, List.nodup_append] at hnd
  have n42 : a2 ≠ a4 := by rintro rfl; simp [MemPlace.row, List.nodup_append] at hnd
  have n40 : a0 ≠ a4 := by rintro rfl; simp [MemPlace.row, List.nodup_append] at hnd
  have n20 : a0 ≠ a2 := by rintro rfl; simp [MemPlace.row, List.nodup_append] at hnd
  refine ⟨eaOf a1 a5 a4 a2 a0, fun k => ?_, fun j k e => ?_, c1, c5, c4, c2, c0⟩
  · match k with
    | 0 => exact k1
    | 1 => exact k5
    | 2 => exact k4
    | 3 => exact k2
    | 4 => exact k0
  · match j, k, e with
    | 0, 0, _ => rfl
    | 1, 1, _ => rfl
    | 2, 2, _ => rfl
    | 3, 3, _ => rfl
    | 4, 4, _ => rfl
    | 0, 1, e => exact absurd e n15
    | 0, 2, e => exact absurd e n14
    | 0, 3, e => exact absurd e n12
    | 0, 4, e => exact absurd (Eq.symm e) n10
    | 1, 0, e => exact absurd (Eq.symm e) n15
    | 1, 2, e => exact absurd (Eq.symm e) n54
    | 1, 3, e => exact absurd (Eq.symm e) n52
    | 1, 4, e => exact absurd (Eq.symm e) n50
    | 2, 0, e => exact absurd (Eq.symm e) n14
    | 2, 1, e => exact absurd e n54
    | 2, 3, e => exact absurd (Eq.symm e) n42
    | 2, 4, e => exact absurd (Eq.symm e) n40
    | 3, 0, e => exact absurd (Eq.symm e) n12
    | 3, 1, e => exact absurd e n52
    | 3, 2, e => exact absurd e n42
    | 3, 4, e => exact absurd (Eq.symm e) n20
    | 4, 0, e => exact absurd e n10
    | 4, 1, e => exact absurd e n50
    | 4, 2, e => exact absurd e n40
    | 4, 3, e => exact absurd e n20
end Go.Eng
