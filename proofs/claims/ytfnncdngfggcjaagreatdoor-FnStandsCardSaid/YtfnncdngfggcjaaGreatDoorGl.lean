/- What the rows' lists give: the two sentinels' cells. -/
import Derived.Test.YtfnncdngfggcjaaGreatDoorTrl
import Derived.RowKitTokens
import Derived.LaidLaws
import Derived.LaidSub
import Derived.MakeChecks
namespace Go.Proofs.YtfnncdngfggcjaaGreatDoor
open Go.ChangeShapes Go.WideShapes Go.RowKit

theorem gEOF : Tryz.prog.globalNamed "io.EOF" = some 6 := by kernel_rfl
theorem gFull : Tryz.prog.globalNamed "bufio.ErrBufferFull" = some 8 := by kernel_rfl
theorem gEOFType : (Tryz.prog.globals[6]?).map (·.type) = some 64 := by kernel_rfl
theorem gFullType : (Tryz.prog.globals[8]?).map (·.type) = some 64 := by kernel_rfl
theorem cells140 : Tryz.prog.cellsOf 140 = 1 := by kernel_rfl
theorem cells9 : Tryz.prog.cellsOf 9 = 1 := by kernel_rfl
theorem starName : "*" ++ "errors.errorString" = "*errors.errorString" := by decide
theorem row138 (u : TypeId) (h : Tryz.prog.typeName? 3 u = some "*errors.errorString") : u = 138 :=
  typeName_ptr_named (nm := "errors.errorString") (by rw [starName]; kernel_rfl) (by kernel_rfl) (by decide) u (by rw [starName]; exact h)

def sentList : List (String × DataW Unit) := [("io.EOF", Rows.laid_io_EOF), ("bufio.ErrBufferFull", Rows.laid_bufio_ErrBufferFull)]

set_option maxRecDepth 100000 in
theorem glob_of_sent {W : World} (h : laidMet Tryz.prog sentList W) : ∃ ea fa, Glob W W.heap.size ea fa := by
  obtain ⟨ps, ⟨g0, t0, cs0, f0, p0, q0, hg0, ht0, hv0, hd0, ⟨g1, t1, cs1, f1, p1, q1, hg1, ht1, hv1, hd1, hq1, e1⟩, e0⟩, hnd, hrows⟩ := h
  obtain rfl := Option.some.inj (gEOF.symm.trans hg0)
  obtain rfl := Option.some.inj (gFull.symm.trans hg1)
  obtain rfl := Option.some.inj (gEOFType.symm.trans ht0)
  obtain rfl := Option.some.inj (gFullType.symm.trans ht1)
  have hq1' : q1 = [] := hq1
  subst hq1'
  subst e1
  subst e0
  obtain ⟨l0⟩ := cs0
  obtain ⟨l1⟩ := cs1
  have ok0 : ∀ u v, l0 = [.iface u v] → Value.okWide Tryz.prog W .any 0 u v := fun u v e => by
    subst e
    exact (hrows 6 0 (by simp [MemPlace.row])).2 u v (by simpa using World.var?_cell hg0 hv0 0)
  have ok1 : ∀ u v, l1 = [.iface u v] → Value.okWide Tryz.prog W .any 0 u v := fun u v e => by
    subst e
    exact (hrows 8 0 (by simp [MemPlace.row])).2 u v (by simpa using World.var?_cell hg1 hv1 0)
  obtain ⟨a0, s0, rfl, hc0, hs0, hz0, rfl⟩ := errorString_of_trod Tryz.underlying64 row138 Tryz.underlying138 Tryz.underlying140 rfl rfl Tryz.underlying9 cells140 cells9 hd0 ok0
  obtain ⟨a1, s1, rfl, hc1, hs1, hz1, rfl⟩ := errorString_of_trod Tryz.underlying64 row138 Tryz.underlying138 Tryz.underlying140 rfl rfl Tryz.underlying9 cells140 cells9 hd1 ok1
  obtain ⟨c0, t0, hb0⟩ := (hrows a0.block a0.off (by simp [MemPlace.row])).1
  obtain ⟨c1, t1, hb1⟩ := (hrows a1.block a1.off (by simp [MemPlace.row])).1
  have k0 : W.cell? ⟨6, 0, none⟩ = some (.iface 138 (.pointer (some a0))) := by simpa using World.var?_cell hg0 hv0 0
  have k1 : W.cell? ⟨8, 0, none⟩ = some (.iface 138 (.pointer (some a1))) := by simpa using World.var?_cell hg1 hv1 0
  have lt6 : 6 < W.heap.size := by
    rcases Nat.lt_or_ge 6 W.heap.size with h | h
    · exact h
    · simp [World.cell?, Array.getElem?_eq_none h] at k0
  have lt8 : 8 < W.heap.size := by
    rcases Nat.lt_or_ge 8 W.heap.size with h | h
    · exact h
    · simp [World.cell?, Array.getElem?_eq_none h] at k1
  refine ⟨a0, a1, { h6 := lt6, h8 := lt8, hB := Nat.le_refl _, eof := k0, full := k1, ne := ?_, le := (Array.getElem?_eq_some_iff.1 hb0).1, lf := (Array.getElem?_eq_some_iff.1 hb1).1, be := ⟨_, _, hb0⟩, bf := ⟨_, _, hb1⟩ }⟩
  rintro rfl
  simp [MemPlace.row] at hnd

theorem glob_of_laid4 {W : World} {a b : DataW Unit} (h : laidMetH Tryz.prog [("math/bits.deBruijn32tab", a), ("math/bits.deBruijn64tab", b), ("io.EOF", Rows.laid_io_EOF), ("bufio.ErrBufferFull", Rows.laid_bufio_ErrBufferFull)] W) :
    ∃ ea fa, Glob W W.heap.size ea fa := by
  have h1 := h.filter (fun x => x.1 == "io.EOF" || x.1 == "bufio.ErrBufferFull")
  have e : ([("math/bits.deBruijn32tab", a), ("math/bits.deBruijn64tab", b), ("io.EOF", Rows.laid_io_EOF), ("bufio.ErrBufferFull", Rows.laid_bufio_ErrBufferFull)].filter fun x : String × DataW Unit => x.1 == "io.EOF" || x.1 == "bufio.ErrBufferFull") = sentList := by
    simp [sentList]
  rw [e] at h1
  have h2 := (laidMetH_iff.1 h1).1
  exact glob_of_sent h2
end Go.Proofs.YtfnncdngfggcjaaGreatDoor
