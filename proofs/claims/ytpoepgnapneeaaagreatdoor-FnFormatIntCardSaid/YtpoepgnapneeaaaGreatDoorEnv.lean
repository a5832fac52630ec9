/-
  What the row's list of package-level variables gives to the walk: io.EOF, and two of the library's tables. Condition: the list holds.
-/
import Derived.Test.YtpoepgnapneeaaaGreatDoorRows
import Derived.Test.YtpoepgnapneeaaaGreatDoorWalk
import Derived.Stop.LaidErr
import Derived.Lib.LaidTab
namespace Go.Proofs.YtpoepgnapneeaaaGreatDoor
open Go.RowKit
set_option maxRecDepth 100000

theorem gEof : Tryz.prog.globalNamed "io.EOF" = some 0 := by kernel_rfl
theorem gEofType : (Tryz.prog.globals[0]?).map (·.type) = some 32 := by kernel_rfl
theorem cells263 : Tryz.prog.cellsOf 263 = 1 := by kernel_rfl
theorem cells9 : Tryz.prog.cellsOf 9 = 1 := by kernel_rfl
theorem starErr : "*" ++ "errors.errorString" = "*errors.errorString" := by decide
theorem row261 (u : TypeId) (h : Tryz.prog.typeName? 3 u = some "*errors.errorString") : u = 261 :=
  typeName_ptr_named (nm := "errors.errorString") (by rw [starErr]; kernel_rfl) (by kernel_rfl) (by decide) u (by rw [starErr]; exact h)
theorem gDeB : Tryz.prog.globalNamed "math/bits.deBruijn64tab" = some 7 := by kernel_rfl
theorem gDeBType : (Tryz.prog.globals[7]?).map (·.type) = some 214 := by kernel_rfl
theorem cells5 : Tryz.prog.cellsOf 5 = 1 := by kernel_rfl
theorem cells214 : Tryz.prog.cellsOf 214 = 64 := by kernel_rfl
theorem gPow : Tryz.prog.globalNamed "internal/strconv.uint64pow10" = some 13 := by kernel_rfl
theorem gPowType : (Tryz.prog.globals[13]?).map (·.type) = some 235 := by kernel_rfl
theorem cells127 : Tryz.prog.cellsOf 127 = 1 := by kernel_rfl
theorem cells235 : Tryz.prog.cellsOf 235 = 20 := by kernel_rfl

/-- The library's table, as its initialiser lays it. -/
def deBTab : List Int := [0, 1, 56, 2, 57, 49, 28, 3, 61, 58, 42, 50, 38, 29, 17, 4, 62, 47, 59, 36, 45, 43, 51, 22, 53, 39, 33, 30, 24, 18, 12, 5, 63, 55, 48, 27, 60, 41, 37, 16, 46, 35, 44, 21, 52, 32, 23, 11, 54, 26, 40, 15, 34, 20, 31, 10, 25, 14, 19, 9, 13, 8, 7, 6]

theorem env_of_laid {W : World} (h : laidMet Tryz.prog Rows.fnFormatIntRow.laid W) : ∃ ea, Env ea W := by
  have h1 := h.tail
  have h2 := h1.tail
  have h6 := h2.tail.tail.tail.tail
  have hd : Lib.TabIs Tryz.prog W "math/bits.deBruijn64tab" .u8 deBTab := Lib.tabIs_of_head gDeB gDeBType Tryz.underlying214 Tryz.underlying5 cells5 cells214 h1
  have hp : PowTab W := Lib.tabIs_of_head gPow gPowType Tryz.underlying235 Tryz.underlying127 cells127 cells235 h2
  obtain ⟨a0, s0, hv0, -, -, -⟩ := laid_sentinel h6 gEof gEofType Tryz.underlying32 row261 Tryz.underlying261 Tryz.underlying263 rfl rfl Tryz.underlying9 cells263 cells9
  refine ⟨a0, ⟨?_, ⟨?_, ?_, ?_⟩, hp⟩⟩
  · have h0 := World.var?_cell gEof hv0 0
    show W.cell? ⟨0, 0, none⟩ = _
    simpa using h0
  · exact hd.cell gDeB 1 (by decide)
  · exact hd.cell gDeB 7 (by decide)
  · exact hd.cell gDeB 15 (by decide)
end Go.Proofs.YtpoepgnapneeaaaGreatDoor
