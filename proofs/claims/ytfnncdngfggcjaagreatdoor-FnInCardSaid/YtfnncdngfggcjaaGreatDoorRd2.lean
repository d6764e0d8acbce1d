/- Contracts of bufio.Reader.fill. -/
import Derived.Test.YtfnncdngfggcjaaGreatDoorRd1
import Derived.Deep.RegionWith
namespace Go.Proofs.YtfnncdngfggcjaaGreatDoor
open Go.RowKit

/-- The reader's own cells. -/
def rdCells (bb br : Nat) (r w : Int) (err : Value) (lb ls : Int) : List Value :=
  [.slice (some ⟨bb, 0, none⟩) 4096 4096, .iface 179 (.agg #[.iface 293 (.pointer (some ⟨br, 0, none⟩))]), .int .i64 r, .int .i64 w, err, .int .i64 lb, .int .i64 ls]

/-- What 'Read' of the reader's source is: bytes.Reader.Read. -/
theorem m_read (br : Nat) (w : World) : (method 401 179 (.agg #[.iface 293 (.pointer (some ⟨br, 0, none⟩))]) "Read").run Tryz.prog w = .ok (242, .pointer (some ⟨br, 0, none⟩)) w := by kernel_rfl

set_option maxRecDepth 100000 in
set_option maxHeartbeats 400000 in
/-- At the end of the data, nothing to slide. -/
theorem fill_eof0 (rb bb br : Nat) (dv : Option Addr) (L cap wr : Nat) (pr lb ls : Int) (err : Value) (ea : Addr) (w : World) (hw : wr < 4096)
    (hb : Blk w br 296 [.slice dv L cap, .int .i64 L, .int .i64 pr]) (he : w.cell? ⟨6, 0, none⟩ = some (.iface 138 (.pointer (some ea))))
    (hr : Blk w rb 231 (rdCells bb br 0 wr err lb ls)) :
    Calls Tryz.prog 155 #[.pointer (some ⟨rb, 0, none⟩)] w fun e w' => e = .returned (.tuple #[]) ∧ Blk w' rb 231 (rdCells bb br 0 wr (.iface 138 (.pointer (some ea))) lb ls) ∧ Ch [rb] w w' := by
  have hc := hr.cells
  have hf := hr.frees
  simp only [rdCells] at hc
  have HB := Lib.hid hb
  have HR := Lib.hid hr
  clear hb hr
  have hm := m_read br
  have hwi : (wr : Int) ≤ 4096 := by omega
  have h4 : ¬ 4096 = wr := by omega
  go_enter Tryz.func155, Tryz.ntmps155
  go_wp2
  go_quiet (fail)
  go_wp2
  refine wp_loop_rounds 1 ?_
  rw [rounds_succ]
  go_wp2
  go_quiet ((go_at_call 242; exact quiet_of2 (read_eof br dv L cap pr _ _ _ (HB.out.drewN _) (by simpa using he))))
  go_wp2
  refine bodyPost_ret (results_none rfl _ _ _) rfl ⟨rfl, ?_, ?_⟩
  · exact ((HR.out.drewN _).set 3 _).set 4 _
  · exact (((Ch.refl _ _).drewN _).set (by simp) _).set (by simp) _

set_option maxRecDepth 100000 in
set_option maxHeartbeats 400000 in
/-- At the end of the data, with nothing left in the buffer. -/
theorem fill_eof1 (rb bb br : Nat) (dv : Option Addr) (L cap k : Nat) (pr lb ls : Int) (err : Value) (ea : Addr) (cs : List Value) (w : World) (_hL : L ≤ 4096) (hk0 : 0 < k) (hk : k ≤ 4096)
    (hb : Blk w br 296 [.slice dv L cap, .int .i64 L, .int .i64 pr]) (he : w.cell? ⟨6, 0, none⟩ = some (.iface 138 (.pointer (some ea)))) (h6 : 6 ≠ rb) (_h6b : 6 ≠ bb)
    (hr : Blk w rb 231 (rdCells bb br k k err lb ls)) (hbb : Blk w bb 5 cs) :
    Calls Tryz.prog 155 #[.pointer (some ⟨rb, 0, none⟩)] w fun e w' => e = .returned (.tuple #[]) ∧ Blk w' rb 231 (rdCells bb br 0 0 (.iface 138 (.pointer (some ea))) lb ls) ∧ Ch [rb] w w' := by
  have hc := hr.cells
  have hf := hr.frees
  simp only [rdCells] at hc
  have HB := Lib.hid hb
  have HR := Lib.hid hr
  have hrb : rb ≠ bb := hr.ne hbb (by decide)
  have hrr : rb ≠ br := hr.ne hb (by decide)
  have HBB := Lib.hid hbb
  clear hb hr hbb
  have hm := m_read br
  have hki : (k : Int) ≤ 4096 := by omega
  by_cases h4 : 4096 = k
  all_goals
    try subst h4
    go_enter Tryz.func155, Tryz.ntmps155
    go_wp2
    go_still_tail 17, (by kernel_rfl)
    change wpList _ _ _ _ _ w.drew
    go_wp2_with (with_reducible refine wpList_copy_nothing rfl (.tmp 13) (.tmp 26) 78 78 rfl 5 Tryz.underlying78 (by kernel_rfl) _ _ _ _ _ _ rfl rfl (by simp) ?_)
    refine wp_gen (fun W => Dr w W) (Dr.refl _).drew ?_
    intro W hW
    have hc1 := (HR.out.dr hW).cells
    simp only [rdCells] at hc1
    have hf1 := (HR.out.dr hW).frees
    have HW := Lib.hid hW
    clear hW hc hf
    go_still_tail 9, (by kernel_rfl)
    change wpList _ _ _ _ _ W.drew
    go_wp2
    refine wp_gen (fun V => Blk V rb 231 (rdCells bb br 0 0 err lb ls) ∧ Ch [rb] w V) ⟨((HR.out.dr HW.out).set 3 _).set 2 _, (((HW.out.ch [rb]).set (by simp) _).set (by simp) _).drew⟩ ?_
    rintro V ⟨hV, hV2⟩
    have hc2 := hV.cells
    simp only [rdCells] at hc2
    have hf2 := hV.frees
    have HB2 := Lib.hid (HB.out.ch hV2 (by simp [hrr.symm]))
    have he2 : V.cell? ⟨6, 0, none⟩ = some (.iface 138 (.pointer (some ea))) := (hV2.cell (World.block_lt_of_cell? _ _ he) (by simp [h6])).trans he
    have HV := Lib.hid hV
    have HV2 := Lib.hid hV2
    clear hV hV2 hc1 hf1 he
    go_quiet (fail)
    go_wp2
    refine wp_loop_rounds 1 ?_
    rw [rounds_succ]
    go_wp2
    go_quiet ((go_at_call 242; exact quiet_of2 (read_eof br dv L cap pr _ _ _ (HB2.out.drewN _) (by simpa using he2))))
    go_wp2
    refine bodyPost_ret (results_none rfl _ _ _) rfl ⟨rfl, ?_, ?_⟩
    · exact ((HV.out.drewN _).set 3 _).set 4 _
    · exact ((HV2.out.drewN _).set (by simp) _).set (by simp) _
end Go.Proofs.YtfnncdngfggcjaaGreatDoor
