/- Contracts of bufio.Reader's readErr and of Peek(2) at the begin of a text. -/
import Derived.Test.YtfnncdngfggcjaaGreatDoorRd3
namespace Go.Proofs.YtfnncdngfggcjaaGreatDoor
open Go.RowKit

set_option maxHeartbeats 400000 in
theorem readErr_any (rb bb br : Nat) (r wr lb ls : Int) (err : Value) (w : World) (hr : Blk w rb 231 (rdCells bb br r wr err lb ls)) :
    Calls Tryz.prog 156 #[.pointer (some ⟨rb, 0, none⟩)] w fun e w' => e = .returned err ∧ Blk w' rb 231 (rdCells bb br r wr .nilIface lb ls) ∧ Ch [rb] w w' := by
  have hc := hr.cells
  have hf := hr.frees
  simp only [rdCells] at hc
  have HR := Lib.hid hr
  clear hr
  go_enter Tryz.func156, Tryz.ntmps156
  go_wp2
  go_ret
  exact ⟨rfl, HR.out.set 4 _, (Ch.refl _ _).set (by simp) _⟩

set_option maxRecDepth 100000 in
set_option maxHeartbeats 1000000 in
/-- An empty text. -/
theorem peek_empty (rb bb br : Nat) (dv : Option Addr) (cap : Nat) (pr lb ls : Int) (ea : Addr) (w : World)
    (hb : Blk w br 296 [.slice dv 0 cap, .int .i64 0, .int .i64 pr]) (he : w.cell? ⟨6, 0, none⟩ = some (.iface 138 (.pointer (some ea)))) (h6 : 6 ≠ rb)
    (hr : Blk w rb 231 (rdCells bb br 0 0 .nilIface lb ls)) (hne : rb ≠ br) :
    Calls Tryz.prog 133 #[.pointer (some ⟨rb, 0, none⟩), .int .i64 2] w fun e w' => e = .returned (.tuple #[.slice (some ⟨bb, 0, none⟩) 0 4096, .iface 138 (.pointer (some ea))]) ∧
      Blk w' rb 231 (rdCells bb br 0 0 .nilIface (-1) (-1)) ∧ Ch [rb] w w' := by
  have hc := hr.cells
  have hf := hr.frees
  simp only [rdCells] at hc
  have HB := Lib.hid hb
  have HR := Lib.hid hr
  have HE := Lib.hid he
  clear hb hr he
  go_enter Tryz.func133, Tryz.ntmps133
  go_wp2
  refine wp_gen (fun V => Blk V rb 231 (rdCells bb br 0 0 .nilIface (-1) (-1)) ∧ Ch [rb] w V) ⟨(HR.out.set 5 _).set 6 _, ((Ch.refl [rb] w).set (by simp) _).set (by simp) _⟩ ?_
  rintro V ⟨hV, hV2⟩
  have hcV := hV.cells
  simp only [rdCells] at hcV
  have HV := Lib.hid hV
  have HV2 := Lib.hid hV2
  have HB2 := Lib.hid (HB.out.ch hV2 (by simp [hne.symm]))
  have HE2 := Lib.hid ((hV2.cell (World.block_lt_of_cell? _ _ HE.out) (by simp [h6])).trans HE.out)
  clear hV hV2 hc hf
  refine wp_loop_rounds 2 ?_
  rw [rounds_succ]
  go_wp2
  go_quiet (fail)
  go_wp2_with (go_at_call 155; refine (fill_eof0 rb bb br dv 0 cap 0 pr (-1) (-1) .nilIface ea _ (by omega) (HB2.out.drewN _) (by simpa using HE2.out) (HV.out.drewN _)).mono ?_; rintro e W ⟨rfl, hW, hW2⟩)
  have hcW := hW.cells
  have hfW := hW.frees
  simp only [rdCells] at hcW
  have HW := Lib.hid hW
  have HW2 := Lib.hid hW2
  clear hW hW2 hcV
  rw [rounds_succ]
  go_wp2
  go_quiet (fail)
  go_wp2
  go_quiet (fail)
  go_wp2_with (go_at_call 156; refine (readErr_any rb bb br 0 0 (-1) (-1) _ _ (HW.out.drewN _)).mono ?_; rintro e U ⟨rfl, hU, hU2⟩)
  have hcU := hU.cells
  simp only [rdCells] at hcU
  have HU := Lib.hid hU
  have HU2 := Lib.hid hU2
  clear hU hU2 hcW hfW
  go_quiet (fail)
  go_wp2
  go_ret2
  exact ⟨rfl, HU.out.drewN _, ((((HV2.out.drewN _).trans HW2.out (by simp)).drewN _).trans HU2.out (by simp)).drewN _⟩

set_option maxRecDepth 100000 in
set_option maxHeartbeats 1000000 in
/-- A text of two bytes or more. -/
theorem peek_data (rb bb br db L : Nat) (txt : List UInt8) (hLt : L = txt.length) (cap : Nat) (pr lb ls : Int) (cs : List Value) (w : World) (hL : L ≤ 4096) (h0 : 2 ≤ L)
    (hb : Blk w br 296 [.slice (some ⟨db, 0, none⟩) L cap, .int .i64 0, .int .i64 pr])
    (hbb : Blk w bb 5 cs) (hlen : 4096 = cs.length) (hd : ∀ j c, txt[j]? = some c → w.cell? ⟨db, j, none⟩ = some (.int .u8 c.toNat)) (hcap : L ≤ cap) (hne : db ≠ br) (hdl : db < w.heap.size)
    (hr : Blk w rb 231 (rdCells bb br 0 0 .nilIface lb ls)) (hdr : db ≠ rb) :
    Calls Tryz.prog 133 #[.pointer (some ⟨rb, 0, none⟩), .int .i64 2] w fun e w' => e = .returned (.tuple #[.slice (some ⟨bb, 0, none⟩) 2 4096, .nilIface]) ∧ Blk w' rb 231 (rdCells bb br 0 L .nilIface (-1) (-1)) ∧
      Blk w' br 296 [.slice (some ⟨db, 0, none⟩) L cap, .int .i64 L, .int .i64 (-1)] ∧ Blk w' bb 5 (splice cs 0 (u8s txt)) ∧ Ch [rb, br, bb] w w' := by
  have hc := hr.cells
  have hf := hr.frees
  simp only [rdCells] at hc
  have hrb : rb ≠ bb := hr.ne hbb (by decide)
  have hrr : rb ≠ br := hr.ne hb (by decide)
  have HB := Lib.hid hb
  have HR := Lib.hid hr
  have HBB := Lib.hid hbb
  have HD := Lib.hid hd
  have HL := Lib.hid hLt
  have Hlen := Lib.hid hlen
  have hLi : (2 : Int) ≤ (L : Int) := by omega
  have hd2 : decide ((L : Int) < 2) = false := by simp; omega
  clear hb hr hbb hd hLt hlen
  go_enter Tryz.func133, Tryz.ntmps133
  go_wp2
  refine wp_gen (fun V => Blk V rb 231 (rdCells bb br 0 0 .nilIface (-1) (-1)) ∧ Ch [rb] w V) ⟨(HR.out.set 5 _).set 6 _, ((Ch.refl [rb] w).set (by simp) _).set (by simp) _⟩ ?_
  rintro V ⟨hV, hV2⟩
  have hcV := hV.cells
  simp only [rdCells] at hcV
  have HV := Lib.hid hV
  have HV2 := Lib.hid hV2
  have HB2 := Lib.hid (HB.out.ch hV2 (by simp [hrr.symm]))
  have HBB2 := Lib.hid (HBB.out.ch hV2 (by simp [hrb.symm]))
  have HD2 : Hid (∀ j c, txt[j]? = some c → V.cell? ⟨db, j, none⟩ = some (.int .u8 c.toNat)) := fun j c h => (hV2.cell hdl (by simp [hdr])).trans (HD.out j c h)
  have hdl2 : db < V.heap.size := Nat.lt_of_lt_of_le hdl hV2.size
  clear hV hV2 hc hf
  refine wp_loop_rounds 2 ?_
  rw [rounds_succ]
  go_wp2
  go_quiet (fail)
  go_wp2_with (go_at_call 155; refine (fill_data rb bb br db L txt HL.out cap pr (-1) (-1) .nilIface cs _ hL (by omega) (HB2.out.drewN _) (HBB2.out.drewN _) Hlen.out HD2.out hcap hne hdl2 (HV.out.drewN _) hdr).mono ?_; rintro e W ⟨rfl, hW, hW1, hW3, hW2⟩)
  have hcW := hW.cells
  have hfW := hW.frees
  simp only [rdCells] at hcW
  have HW := Lib.hid hW
  have HW1 := Lib.hid hW1
  have HW3 := Lib.hid hW3
  have HW2 := Lib.hid hW2
  clear hW hW1 hW2 hW3 hcV
  rw [rounds_succ]
  go_wp2
  go_quiet (fail)
  go_wp2
  go_quiet (fail)
  go_wp2
  go_quiet (fail)
  go_wp2
  go_ret2
  exact ⟨rfl, HW.out, HW1.out, HW3.out, (((HV2.out.drewN _).join (U := [rb, br, bb]) HW2.out (by simp) (by simp)).drewN _).drewN _⟩
end Go.Proofs.YtfnncdngfggcjaaGreatDoor
