/- Contract of bufio.Reader.fill where there is data to read. -/
import Derived.Test.YtfnncdngfggcjaaGreatDoorRd2
import Derived.Deep.RegionHeld3
namespace Go.Proofs.YtfnncdngfggcjaaGreatDoor
open Go.RowKit

set_option maxRecDepth 100000 in
set_option maxHeartbeats 400000 in
/-- The first one: all the data come into the buffer. -/
theorem fill_data (rb bb br db L : Nat) (txt : List UInt8) (hLt : L = txt.length) (cap : Nat) (pr lb ls : Int) (err : Value) (cs : List Value) (w : World) (hL : L ≤ 4096) (h0 : 0 < L)
    (hb : Blk w br 296 [.slice (some ⟨db, 0, none⟩) L cap, .int .i64 0, .int .i64 pr])
    (hbb : Blk w bb 5 cs) (hlen : 4096 = cs.length) (hd : ∀ j c, txt[j]? = some c → w.cell? ⟨db, j, none⟩ = some (.int .u8 c.toNat)) (hcap : L ≤ cap) (hne : db ≠ br) (hdl : db < w.heap.size)
    (hr : Blk w rb 231 (rdCells bb br 0 0 err lb ls)) (_hdr : db ≠ rb) :
    Calls Tryz.prog 155 #[.pointer (some ⟨rb, 0, none⟩)] w fun e w' => e = .returned (.tuple #[]) ∧ Blk w' rb 231 (rdCells bb br 0 L err lb ls) ∧
      Blk w' br 296 [.slice (some ⟨db, 0, none⟩) L cap, .int .i64 L, .int .i64 (-1)] ∧ Blk w' bb 5 (splice cs 0 (u8s txt)) ∧ Ch [rb, br, bb] w w' := by
  have hc := hr.cells
  have hf := hr.frees
  simp only [rdCells] at hc
  have hrb : rb ≠ bb := hr.ne hbb (by decide)
  have hrr : rb ≠ br := hr.ne hb (by decide)
  have HL := Lib.hid hLt
  have HB := Lib.hid hb
  have HR := Lib.hid hr
  have HBB := Lib.hid hbb
  have HD := Lib.hid hd
  have Hlen := Lib.hid hlen
  clear hb hr hbb hd hLt hlen
  have hm := m_read br
  go_enter Tryz.func155, Tryz.ntmps155
  go_wp2
  go_quiet (fail)
  go_wp2
  refine wp_loop_rounds 1 ?_
  rw [rounds_succ]
  go_wp2
  refine wp_gen (fun W => Dr w W) ((Dr.refl _).drewN _) ?_
  intro W hW
  have hc1 := (HR.out.dr hW).cells
  simp only [rdCells] at hc1
  have hf1 := (HR.out.dr hW).frees
  have HW := Lib.hid hW
  have HDW : Hid (∀ j c, txt[j]? = some c → W.cell? ⟨db, j, none⟩ = some (.int .u8 c.toNat)) := fun j c h => (hW.cell _).trans (HD.out j c h)
  have hdlW : db < W.heap.size := by rw [hW.heap]; exact hdl
  clear hW hc hf
  go_region_held3 (fun w' => ∀ o, w'.cell? ⟨rb, o, none⟩ = [Value.slice (some ⟨bb, 0, none⟩) 4096 4096, .iface 179 (.agg #[.iface 293 (.pointer (some ⟨br, 0, none⟩))]), .int .i64 0, .int .i64 0, err, .int .i64 lb, .int .i64 ls][o]?)
    (first
      | go_keep
      | (intro o; exact (((HR.out.dr HW.out).drew.ch h3 (by simp [hrr, hrb])).cells o)))
    ((go_at_call 242; refine (read_data br bb db L txt HL.out cap pr cs _ hL h0 ((HB.out.dr HW.out).drew) ((HBB.out.dr HW.out).drew) Hlen.out HDW.out hcap hne hdlW).mono ?_; rintro e w2 ⟨rfl, h1, h2, h3⟩))
  have HR2 := Lib.hid ((HR.out.dr HW.out).drew.ch h3 (by simp [hrr, hrb]))
  have hc2 := HR2.out.cells
  simp only [rdCells] at hc2
  have hf2 := HR2.out.frees
  clear hc1 hf1
  go_wp2
  refine bodyPost_ret (results_none rfl _ _ _) rfl ⟨rfl, HR2.out.set 3 _, h1.setCell hrr.symm _, h2.setCell hrb.symm _, ?_⟩
  exact ((HW.out.ch []).drew.join h3 (by simp) (by simp)).set (by simp) _
end Go.Proofs.YtfnncdngfggcjaaGreatDoor
