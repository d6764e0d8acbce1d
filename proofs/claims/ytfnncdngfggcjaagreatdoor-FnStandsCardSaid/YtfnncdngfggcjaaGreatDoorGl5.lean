/- What the rows' lists of five give: the two sentinels' cells, and the table of spaces. -/
import Derived.Test.YtfnncdngfggcjaaGreatDoorTrB
import Derived.Test.YtfnncdngfggcjaaGreatDoorLf3
import Derived.Lib.LaidTab
namespace Go.Proofs.YtfnncdngfggcjaaGreatDoor
open Go.ChangeShapes Go.WideShapes Go.RowKit

theorem gSpcType : (Tryz.prog.globals[0]?).map (·.type) = some 148 := by kernel_rfl
theorem cells148 : Tryz.prog.cellsOf 148 = 256 := by kernel_rfl
theorem cells5 : Tryz.prog.cellsOf 5 = 1 := by kernel_rfl
theorem laid_spaces {H : Type} : (Rows.laid_strings_asciiSpace : DataW H) = Lib.tabData .u8 Lib.asciiSpaceTab := by kernel_rfl

set_option maxRecDepth 100000 in
theorem glob_of_laid5 {W : World} {a b : DataW Unit} (h : laidMetH Tryz.prog [("math/bits.deBruijn32tab", a), ("math/bits.deBruijn64tab", b), ("io.EOF", Rows.laid_io_EOF), ("strings.asciiSpace", Rows.laid_strings_asciiSpace), ("bufio.ErrBufferFull", Rows.laid_bufio_ErrBufferFull)] W) :
    (∃ ea fa, Glob W W.heap.size ea fa) ∧ SpcTab W := by
  refine ⟨?_, ?_⟩
  · have h1 := h.filter (fun x => x.1 == "io.EOF" || x.1 == "bufio.ErrBufferFull")
    have e : ([("math/bits.deBruijn32tab", a), ("math/bits.deBruijn64tab", b), ("io.EOF", Rows.laid_io_EOF), ("strings.asciiSpace", Rows.laid_strings_asciiSpace), ("bufio.ErrBufferFull", Rows.laid_bufio_ErrBufferFull)].filter fun x : String × DataW Unit => x.1 == "io.EOF" || x.1 == "bufio.ErrBufferFull") = sentList := by
      simp [sentList]
    rw [e] at h1
    exact glob_of_sent (laidMetH_iff.1 h1).1
  · have h1 := h.filter (fun x => x.1 == "strings.asciiSpace")
    have e : ([("math/bits.deBruijn32tab", a), ("math/bits.deBruijn64tab", b), ("io.EOF", Rows.laid_io_EOF), ("strings.asciiSpace", Rows.laid_strings_asciiSpace), ("bufio.ErrBufferFull", Rows.laid_bufio_ErrBufferFull)].filter fun x : String × DataW Unit => x.1 == "strings.asciiSpace") = [("strings.asciiSpace", Rows.laid_strings_asciiSpace)] := by
      simp
    rw [e, laid_spaces] at h1
    exact Lib.tabIs_of_head gSpc gSpcType Tryz.underlying148 Tryz.underlying5 cells5 cells148 (laidMetH_iff.1 h1).1

/-- A world for the witness: as laidWorld, the table of spaces too. -/
noncomputable def laidWorld5 (os : Os) : World :=
  { laidWorld os with heap := (laidWorld os).heap.modify 0 fun
    | .cells _ t fr => .cells (Lib.asciiSpaceTab.map fun z => Value.int .u8 z).toArray t fr | o => o }
end Go.Proofs.YtfnncdngfggcjaaGreatDoor
