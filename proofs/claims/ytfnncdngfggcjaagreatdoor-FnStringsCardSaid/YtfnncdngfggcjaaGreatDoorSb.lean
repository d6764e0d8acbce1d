/- A slice of texts that came in, opened. -/
import Derived.Test.YtfnncdngfggcjaaGreatDoorIn1
import Derived.Test.YtfnncdngfggcjaaGreatDoorTrA
import Derived.Test.YtfnncdngfggcjaaGreatDoorTrB
namespace Go.Proofs.YtfnncdngfggcjaaGreatDoor
open Go.ChangeShapes Go.WideShapes Go.ChangeAt Go.RowKit Go.ChangeMaps

theorem laidOutTryz : laidOutB Tryz.prog = true := by kernel_rfl
theorem cellsOf9 : Tryz.prog.cellsOf 9 = 1 := by kernel_rfl

set_option maxRecDepth 100000 in
/-- A slice of texts that is read, opened; and it reads the same behind what turned nothing of it. -/
theorem strsB_open {H : Type} {enc : TypeId × Value → H} {W : World} {v : Value} {d : DataW H} {p : List MemPlace} (h : DataW.Trod enc Tryz.prog W 0 (fun _ => true) true 26 v d p) (hv : Value.okWide Tryz.prog W .any 0 26 v) :
    ∃ l : List ByteArray, StrsB W.heap.size W v l ∧ l.length ≤ maxLen := by
  obtain ⟨a0, len0, cap0, rfl⟩ := okWide_slice Tryz.underlying26 hv
  obtain ⟨fuel, hf⟩ := h
  rcases open_strings Tryz.underlying26 Tryz.underlying9 cellsOf9 hf with ⟨hcs, hx⟩ | ⟨a, len, cap, ss, hcs, hb, hl, hm, hz, hx, hcell, hws⟩
  · simp [Value.cells] at hcs
    obtain ⟨rfl, rfl, rfl⟩ := hcs
    exact ⟨[], .inl ⟨none, 0, rfl, rfl⟩, by simp⟩
  · simp [Value.cells] at hcs
    obtain ⟨rfl, rfl, rfl⟩ := hcs
    have hlen : ss.length = cap0 := by simpa using hz
    by_cases h0 : len0 = 0
    · subst h0
      exact ⟨[], .inl ⟨_, _, rfl, rfl⟩, by simp⟩
    · have hp0 := hcell 0 (by omega)
      obtain ⟨b, off, spot⟩ := a
      have hspot : spot = none := by simpa [Addr.add] using World.cell?_spot hp0
      subst hspot
      have htl : (ss.take len0).length = len0 := by rw [List.length_take]; omega
      have hbw : b < W.heap.size := World.block_lt_of_cell? _ _ hp0
      refine ⟨ss.take len0, .inr ⟨b, off, cap0, by rw [htl], by omega, by omega, hbw, hbw, fun k hk => ?_⟩, by rw [htl]; omega⟩
      rw [htl] at hk
      have h1 := hcell k (by omega)
      rw [add_plain] at h1
      rw [h1, List.getElem_take, List.getD_eq_getElem?_getD, List.getElem?_eq_getElem (by omega)]
      rfl
end Go.Proofs.YtfnncdngfggcjaaGreatDoor
