/- Contracts of bufio.NewReaderSize and of newParser. -/
import Derived.Test.YtfnncdngfggcjaaGreatDoorRd7
namespace Go.Proofs.YtfnncdngfggcjaaGreatDoor
open Go.RowKit

def zeros4096 : List Value := List.replicate 4096 (.int .u8 0)

theorem make4096 (W : World) : (Instr.makeSlice 78 (.int .i64 4096) (.int .i64 4096)).run Tryz.prog W = .ok (.slice (some ⟨W.heap.size, 0, none⟩) 4096 4096) (W.alloc (.cells zeros4096.toArray 5)) := by
  have h := run_make_row' (P := Tryz.prog) 78 5 (.int .u8 0) 1 Tryz.underlying78 info5 rfl .i64 .i64 4096 (by omega) (by omega) W
  rw [madeCells_toList] at h
  exact h

set_option maxRecDepth 100000 in
set_option maxHeartbeats 1000000 in
theorem reset_any (rb bb br : Nat) (old : List Value) (w : World) (ho : Blk w rb 231 old) (h7 : old.length = 7) :
    Calls Tryz.prog 171 #[.pointer (some ⟨rb, 0, none⟩), .slice (some ⟨bb, 0, none⟩) 4096 4096, .iface 179 (.agg #[.iface 293 (.pointer (some ⟨br, 0, none⟩))])] w fun e w' => e = .returned (.tuple #[]) ∧ Blk w' rb 231 (rdCells bb br 0 0 .nilIface (-1) (-1)) ∧ Ch [rb] w w' := by
  obtain ⟨a0, a1, a2, a3, a4, a5, a6, rfl⟩ : ∃ a0 a1 a2 a3 a4 a5 a6, old = [a0, a1, a2, a3, a4, a5, a6] := by
    match old, h7 with
    | [a0, a1, a2, a3, a4, a5, a6], _ => exact ⟨_, _, _, _, _, _, _, rfl⟩
  have hc := ho.cells
  have hf := ho.frees
  have HO := Lib.hid ho
  clear ho h7
  go_enter Tryz.func171, Tryz.ntmps171
  go_wp2
  go_end0
  refine ⟨rfl, ?_, ?_⟩
  · have h := ((((((HO.out.set 0 (.slice (some ⟨bb, 0, none⟩) 4096 4096)).set 1 (.iface 179 (.agg #[.iface 293 (.pointer (some ⟨br, 0, none⟩))]))).set 2 (.int .i64 0)).set 3 (.int .i64 0)).set 4 .nilIface).set 5 (.int .i64 (-1))).set 6 (.int .i64 (-1))
    simp only [List.set_cons_zero, List.set_cons_succ] at h
    exact h
  repeat (first | refine Ch.set ?_ (by simp) _ | exact Ch.refl _ _)

set_option maxRecDepth 100000 in
set_option maxHeartbeats 1000000 in
theorem newReaderSize_any (br : Nat) (w : World) :
    Calls Tryz.prog 153 #[.iface 179 (.agg #[.iface 293 (.pointer (some ⟨br, 0, none⟩))]), .int .i64 4096] w fun e w' => ∃ rb bb, e = .returned (.pointer (some ⟨rb, 0, none⟩)) ∧ w.heap.size ≤ rb ∧ w.heap.size ≤ bb ∧
      Blk w' rb 231 (rdCells bb br 0 0 .nilIface (-1) (-1)) ∧ Blk w' bb 5 zeros4096 ∧ Ch [] w w' := by
  have hmk := make4096
  have hmx : max (4096 : Int) 16 = 4096 := by decide
  have hta : ∀ W, (Instr.typeAssert (.iface 179 (.agg #[.iface 293 (.pointer (some ⟨br, 0, none⟩))])) 159 203 true).run Tryz.prog W = .ok (.tuple #[.pointer none, .bool false]) W := fun _ => by kernel_rfl
  go_enter Tryz.func153, Tryz.ntmps153
  go_wp2_with fail
  refine (reset_any w.heap.size (w.heap.size + 1) br [.slice none 0 0, .nilIface, .int .i64 0, .int .i64 0, .nilIface, .int .i64 0, .int .i64 0] _ ((Blk.new w 231 _).alloc _) rfl).mono ?_
  rintro e W ⟨rfl, h1, h2⟩
  go_wp2
  go_ret
  exact ⟨w.heap.size, w.heap.size + 1, rfl, Nat.le_refl _, Nat.le_succ _, h1, (Blk.newM _ 5 zeros4096 _ (by simp)).ch h2 (by simp), (((Ch.refl [] w).alloc _).alloc _).trans h2 (by simp)⟩

set_option maxRecDepth 100000 in
set_option maxHeartbeats 1000000 in
theorem newParser_any (br : Nat) (w : World) :
    Calls Tryz.prog 131 #[.iface 179 (.agg #[.iface 293 (.pointer (some ⟨br, 0, none⟩))]), .agg #[.bool false, .bool false, .bool false, .bool false, .bool false, .bool false, .bool false, .int .i64 0]] w fun e w' =>
      ∃ pb rb bb cb, e = .returned (.pointer (some ⟨pb, 0, none⟩)) ∧ w.heap.size ≤ pb ∧ w.heap.size ≤ rb ∧ w.heap.size ≤ bb ∧ w.heap.size ≤ cb ∧
      Blk w' pb 206 (parCells rb cb false 1) ∧ Blk w' rb 231 (rdCells bb br 0 0 .nilIface (-1) (-1)) ∧ Blk w' bb 5 zeros4096 ∧ Blk w' cb 229 [.slice none 0 0, .int .i64 0, .int .i8 0] ∧ Ch [] w w' := by
  go_enter Tryz.func131, Tryz.ntmps131
  go_wp2_with fail
  refine wp_gen (fun V => Blk V w.heap.size 201 [.bool false, .bool false, .bool false, .bool false, .bool false, .bool false, .bool false, .int .i64 0] ∧ Ch [] w V ∧ w.heap.size < V.heap.size) ⟨Blk.new w 201 _, (Ch.refl [] w).alloc _, by simp⟩ ?_
  rintro V ⟨hV, hV2, hVs⟩
  have hcV := hV.cells
  have HV := Lib.hid hV
  have HV2 := Lib.hid hV2
  clear hV hV2
  go_region_held3 (fun w' => ∀ o, w'.cell? ⟨w.heap.size, o, none⟩ = [Value.bool false, .bool false, .bool false, .bool false, .bool false, .bool false, .bool false, .int .i64 0][o]?)
    (first
      | (intro o; refine Blk.cells (T := 201) (cs := [Value.bool false, .bool false, .bool false, .bool false, .bool false, .bool false, .bool false, .int .i64 0]) ?_ o; exact HV.out.drew)
      | (intro o; refine Blk.cells (T := 201) (cs := [Value.bool false, .bool false, .bool false, .bool false, .bool false, .bool false, .bool false, .int .i64 0]) ?_ o; exact (HV.out.alloc _).drew)
      | (intro o; refine Blk.cells (T := 201) (cs := [Value.bool false, .bool false, .bool false, .bool false, .bool false, .bool false, .bool false, .int .i64 0]) ?_ o; exact (HV.out.alloc _))
      | (intro o; refine Blk.cells (T := 201) (cs := [Value.bool false, .bool false, .bool false, .bool false, .bool false, .bool false, .bool false, .int .i64 0]) ?_ o; exact HV.out.drew.ch h5 (by simp))
      | (intro o; refine Blk.cells (T := 201) (cs := [Value.bool false, .bool false, .bool false, .bool false, .bool false, .bool false, .bool false, .int .i64 0]) ?_ o; exact (HV.out.drew.ch h5 (by simp)).alloc _)
      | (intro o; refine Blk.cells (T := 201) (cs := [Value.bool false, .bool false, .bool false, .bool false, .bool false, .bool false, .bool false, .int .i64 0]) ?_ o; exact (HV.out.alloc _).drew.ch h5 (by simp))
      | (intro o; refine Blk.cells (T := 201) (cs := [Value.bool false, .bool false, .bool false, .bool false, .bool false, .bool false, .bool false, .int .i64 0]) ?_ o; exact ((HV.out.alloc _).drew.ch h5 (by simp)).alloc _)
      | (intro o; refine Blk.cells (T := 201) (cs := [Value.bool false, .bool false, .bool false, .bool false, .bool false, .bool false, .bool false, .int .i64 0]) ?_ o; exact ((HV.out.drew.ch h5 (by simp)).alloc _).alloc _))
    ((go_at_call 153; refine (newReaderSize_any br _).mono ?_; rintro e W ⟨rb, bb, rfl, h1, h2, h3, h4, h5⟩))
  all_goals go_wp2
  all_goals go_ret
  · have hs := h5.size
    have hs0 := HV2.out.size
    simp only [World.size_drew] at hs h1 h2
    exact ⟨W.heap.size + 1, rb, bb, W.heap.size, rfl, by omega, by omega, by omega, by omega, by exact Blk.newM _ 206 (parCells rb W.heap.size false 1) _ (by simp), (h3.alloc _).alloc _, (h4.alloc _).alloc _, (Blk.new W 229 _).alloc _, (((HV2.out.drew.trans h5 (by simp)).alloc _).alloc _)⟩
  · have hs := h5.size
    have hs0 := HV2.out.size
    simp only [World.size_drew, World.size_alloc] at hs h1 h2
    exact ⟨W.heap.size, rb, bb, V.heap.size, rfl, by omega, by omega, by omega, by omega, by exact Blk.newM _ 206 (parCells rb V.heap.size false 1) _ rfl, h3.alloc _, h4.alloc _, (((Blk.new V 229 [.slice none 0 0, .int .i64 0, .int .i8 0]).drew.ch h5 (by simp)).alloc _), (((HV2.out.alloc _).drew.trans h5 (by simp)).alloc _)⟩
end Go.Proofs.YtfnncdngfggcjaaGreatDoor
