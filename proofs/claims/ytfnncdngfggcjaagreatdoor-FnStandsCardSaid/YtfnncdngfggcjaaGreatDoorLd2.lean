/- Contracts of parseDataSource and ReadCloser, and of TrimLeftFunc on nothing. -/
import Derived.Test.YtfnncdngfggcjaaGreatDoorLd1
namespace Go.Proofs.YtfnncdngfggcjaaGreatDoor
open Go.RowKit

set_option maxRecDepth 100000 in
set_option maxHeartbeats 400000 in
theorem parseDataSource_any (dv : Option Addr) (L cap : Nat) (w : World) :
    Calls Tryz.prog 91 #[.iface 78 (.slice dv L cap)] w fun e w' => e = .returned (.tuple #[.iface 150 (.pointer (some ⟨w.heap.size, 0, none⟩)), .nilIface]) ∧ w.alloc (.cells #[.slice dv L cap] 152) = w' := by
  have hta : ∀ W, (Instr.typeAssert (.iface 78 (.slice dv L cap)) 20 78 true).run Tryz.prog W = .ok (.tuple #[.slice dv L cap, .bool true]) W := fun _ => by kernel_rfl
  go_enter Tryz.func91, Tryz.ntmps91
  go_wp2
  refine bodyPost_ret (results_tmp2 rfl _ _ _) rfl ?_
  exact ⟨rfl, rfl⟩

set_option maxRecDepth 100000 in
set_option maxHeartbeats 400000 in
theorem readCloser_any (sd : Nat) (dv : Option Addr) (L cap : Nat) (w : World) (h : Blk w sd 152 [.slice dv L cap]) :
    Calls Tryz.prog 228 #[.pointer (some ⟨sd, 0, none⟩)] w fun e w' => e = .returned (.tuple #[.iface 179 (.agg #[.iface 293 (.pointer (some ⟨w.heap.size, 0, none⟩))]), .nilIface]) ∧ w.alloc (.cells #[.slice dv L cap, .int .i64 0, .int .i64 (-1)] 296) = w' := by
  have hc := h.cells
  clear h
  go_enter Tryz.func228, Tryz.ntmps228
  go_wp2_with (first
    | (go_at_call 229; refine (newReader_any dv L cap _).mono ?_; rintro e w' ⟨rfl, rfl⟩)
    | (go_at_call 114; refine (nopCloser_any w.heap.size _).mono ?_; rintro e w' ⟨rfl, rfl⟩))
  refine bodyPost_ret (results_tmp2 rfl _ _ _) rfl ?_
  exact ⟨rfl, rfl⟩

set_option maxHeartbeats 400000 in
theorem indexFunc_empty (a : Option Addr) (cap : Nat) (w : World) :
    Calls Tryz.prog 159 #[.slice a 0 cap, .func (.func 112) #[] #[], .bool false] w fun e w' => e = .returned (.int .i64 (-1)) ∧ w = w' := by
  go_enter Tryz.func159, Tryz.ntmps159
  go_wp2
  refine wp_loop_rounds 1 ?_
  rw [rounds_succ]
  go_wp2
  go_ret
  exact ⟨rfl, rfl⟩

set_option maxHeartbeats 400000 in
theorem trimLeft_empty (a : Option Addr) (cap : Nat) (w : World) :
    Calls Tryz.prog 137 #[.slice a 0 cap, .func (.func 112) #[] #[]] w fun e w' => e = .returned (.slice none 0 0) ∧ w = w' := by
  go_enter Tryz.func137, Tryz.ntmps137
  go_wp2_with (go_at_call 159; refine (indexFunc_empty a cap _).mono ?_; rintro e w' ⟨rfl, rfl⟩)
  go_ret
  exact ⟨rfl, rfl⟩
end Go.Proofs.YtfnncdngfggcjaaGreatDoor
