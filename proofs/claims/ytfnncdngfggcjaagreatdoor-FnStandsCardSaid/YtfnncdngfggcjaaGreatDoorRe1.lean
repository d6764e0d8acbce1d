/- Contracts of reload and Reload, by way of parse's. -/
import Derived.Test.YtfnncdngfggcjaaGreatDoorPa0
import Derived.Defers
namespace Go.Proofs.YtfnncdngfggcjaaGreatDoor
open Go.RowKit

theorem m_rc (sd : Nat) (w : World) : (method 401 150 (.pointer (some ⟨sd, 0, none⟩)) "ReadCloser").run Tryz.prog w = .ok (228, .pointer (some ⟨sd, 0, none⟩)) w := by kernel_rfl
theorem m_close (br : Nat) (w : World) : (method 401 179 (.agg #[.iface 293 (.pointer (some ⟨br, 0, none⟩))]) "Close").run Tryz.prog w = .ok (231, .agg #[.iface 293 (.pointer (some ⟨br, 0, none⟩))]) w := by kernel_rfl

theorem close_deferred (br : Nat) (u : FrameMode) (w : World) :
    CallsD Tryz.prog 231 #[.agg #[.iface 293 (.pointer (some ⟨br, 0, none⟩))]] u w fun e u' w' => u' = u ∧ (e = .returned .nilIface ∧ Ch [] w w') := by
  go_enter_d Tryz.func231, Tryz.ntmps231
  go_wp2
  go_ret
  exact ⟨rfl, (Ch.refl [] w).alloc _⟩

set_option maxRecDepth 100000 in
set_option maxHeartbeats 1000000 in
theorem reload_via (fb sd : Nat) (dv : Option Addr) (L cap : Nat) (R : World → Prop) (w : World) (h : Blk w sd 152 [.slice dv L cap])
    (hparse : Calls Tryz.prog 125 #[.pointer (some ⟨fb, 0, none⟩), .iface 179 (.agg #[.iface 293 (.pointer (some ⟨w.heap.size, 0, none⟩))])] (w.alloc (.cells #[.slice dv L cap, .int .i64 0, .int .i64 (-1)] 296)) fun e w' => e = .returned .nilIface ∧ Hid (R w')) :
    Calls Tryz.prog 115 #[.pointer (some ⟨fb, 0, none⟩), .iface 150 (.pointer (some ⟨sd, 0, none⟩))] w fun e w' => e = .returned .nilIface ∧ Hid (∃ w1, R w1 ∧ Ch [] w1 w') := by
  have HP := Lib.hid hparse
  have HB := Lib.hid h
  have hm := m_rc sd
  have hm2 := m_close w.heap.size
  clear hparse h
  go_enter_defers Tryz.func115, Tryz.ntmps115
  go_wp2_with (first
    | (go_at_call 228; refine (readCloser_any sd dv L cap _ HB.out).mono ?_; rintro e w' ⟨rfl, rfl⟩)
    | (go_at_call 125; refine HP.out.mono ?_; rintro e w1 ⟨rfl, HR⟩))
  refine leaves_cons (f := 231) (args := #[.agg #[.iface 293 (.pointer (some ⟨w.heap.size, 0, none⟩))]]) (by simp) (by kernel_rfl) ?_
  refine (close_deferred w.heap.size .returning _).mono ?_
  rintro e u' w'' ⟨rfl, rfl, hch⟩
  exact ⟨_, results_tmp rfl _ _ _, rfl, Lib.hid ⟨w1, HR.out, hch⟩⟩

set_option maxRecDepth 100000 in
set_option maxHeartbeats 1000000 in
theorem Reload_via (fb dsb sd : Nat) (R : World → Prop) (w : World) (hds : w.cell? ⟨fb, 23, none⟩ = some (.slice (some ⟨dsb, 0, none⟩) 1 1)) (hd : w.cell? ⟨dsb, 0, none⟩ = some (.iface 150 (.pointer (some ⟨sd, 0, none⟩))))
    (hr : Calls Tryz.prog 115 #[.pointer (some ⟨fb, 0, none⟩), .iface 150 (.pointer (some ⟨sd, 0, none⟩))] w fun e w' => e = .returned .nilIface ∧ Hid (R w')) (hR : ∀ w', R w' → w'.cell? ⟨fb, 7, none⟩ = some (.bool false)) :
    Calls Tryz.prog 93 #[.pointer (some ⟨fb, 0, none⟩)] w fun e w' => e = .returned .nilIface ∧ Hid (R w') := by
  have HP := Lib.hid hr
  have HRR := Lib.hid hR
  clear hr hR
  go_enter Tryz.func93, Tryz.ntmps93
  go_wp2
  refine wp_loop_rounds 2 ?_
  rw [rounds_succ]
  go_wp2_with (go_at_call 115; refine HP.out.mono ?_; rintro e w1 ⟨rfl, HR⟩; have hc7 := HRR.out _ HR.out; clear hds hd)
  rw [rounds_succ]
  go_wp2
  go_ret
  exact ⟨rfl, HR⟩
end Go.Proofs.YtfnncdngfggcjaaGreatDoor
